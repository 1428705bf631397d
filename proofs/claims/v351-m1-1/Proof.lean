import JvmDerived
import JvmDerived.Pilot.@@N@@Statement
import JvmDerived.Pilot.@@N@@Code
set_option linter.unusedVariables false
set_option linter.unusedSimpArgs false
/- laws to paste: Road.backV (cut by pick.py; bodies as the Statement names them) -/
namespace Jvm.Pilot.@@N@@
namespace StrChars
open Jvm Sem ClassFile Op Lib Jvm.Stand Jvm.Free.XT Jvm.Free.ALB Jvm.Free.JM Jvm.Free
open Jvm.Lib.Cold (StaticIs)
/-- a char array whose places are chars -/
def Ch (a : Addr) (A : Cell) (U : State) : Prop := Arr .char a A U ∧ Typed .char A
theorem Ch.mv {a : Addr} {A : Cell} {U U' : State} (h : Ch a A U) (hal : U.vm.Alike U'.vm) (hh : U'.heap = U.heap) : Ch a A U' := ⟨h.1.mv hal hh, h.2⟩
theorem Ch.keep {a : Addr} {A : Cell} {U U' : State} (h : Ch a A U) (hal : U.vm.Alike U'.vm) (hk : U'.heap[a]? = some A) : Ch a A U' := ⟨h.1.keep hal hk, h.2⟩
/-- what place i of a char[]'s cell holds -/
def cv (A : Cell) (i : Nat) : Int32 := match A.slots[i]? with | some (.int x) => x | _ => 0
theorem Ch.get {a : Addr} {A : Cell} {U : State} (h : Ch a A U) {i : Nat} (hi : i < A.slots.size) : A.slots[i]? = some (.int (cv A i)) := by
  have e := Array.getElem?_eq_getElem hi
  have f := h.2 i _ e
  unfold cv; rw [e]
  generalize A.slots[i] = v at f
  cases v <;> simp [fits] at f ⊢
/-- the byte that i2b leaves of a char -/
def lo8 (x : Int32) : Int32 := x.toInt8.toInt32
theorem fits_lo8 (y : Int32) : fits .byte (.int (lo8 y)) = true := by
  have h1 := y.toInt8.le_toInt
  have h2 := y.toInt8.toInt_lt
  simp only [lo8, fits, Bool.and_eq_true, decide_eq_true_eq, Int32.le_iff_toInt_le, Int8.toInt_toInt32, show (-128 : Int32).toInt = -128 from by decide, show (127 : Int32).toInt = 127 from by decide]
  omega
/-- A' is A but that each place j of lo .. hi - 1 holds f j -/
def Laid (A A' : Cell) (lo hi : Nat) (f : Nat → Value) : Prop := A'.cls = A.cls ∧ A'.vm = A.vm ∧ A'.slots.size = A.slots.size ∧ ∀ i, A'.slots[i]? = if lo ≤ i ∧ i < hi then some (f i) else A.slots[i]?
theorem Laid.zero (A : Cell) (lo : Nat) (f : Nat → Value) : Laid A A lo (lo + 0) f := ⟨rfl, rfl, rfl, fun i => by rw [if_neg (by omega)]⟩
theorem Laid.step {A Ak : Cell} {lo k : Nat} {f : Nat → Value} {v : Value} (h : Laid A Ak lo k f) (hlo : lo ≤ k) (hk : k < Ak.slots.size) (hv : v = f k) : Laid A (Ak.setSlot k v) lo (k + 1) f := by
  refine ⟨h.1, h.2.1, by simpa [Cell.setSlot] using h.2.2.1, fun i => ?_⟩
  by_cases e : k = i
  · subst e; rw [Cell.slots_setSlot_self v hk, if_pos (by omega), hv]
  · rw [Cell.slots_setSlot_ne v e, h.2.2.2 i]
    by_cases q : lo ≤ i ∧ i < k
    · rw [if_pos q, if_pos (by omega)]
    · rw [if_neg q, if_neg (by omega)]
def U16 : String := "java/lang/StringUTF16"
namespace Cmp5
def yN : MethodName := ⟨"java/lang/StringUTF16", "compress", "([CI[BII)I"⟩
abbrev yB : ByteArray := jdk_52_method_21_code
theorem d0 : decode yB 0 = .ok (.iconst 0, 1) := by decide +kernel
theorem d1 : decode yB 1 = .ok (.istore 5, 2) := by decide +kernel
theorem d3 : decode yB 3 = .ok (.iload 5, 2) := by decide +kernel
theorem d5 : decode yB 5 = .ok (.iload 4, 2) := by decide +kernel
theorem d7 : decode yB 7 = .ok (.if_icmp (.ge) 37, 3) := by decide +kernel
theorem d10 : decode yB 10 = .ok (.aload_n 0, 1) := by decide +kernel
theorem d11 : decode yB 11 = .ok (.iload_n 1, 1) := by decide +kernel
theorem d12 : decode yB 12 = .ok (.caload, 1) := by decide +kernel
theorem d13 : decode yB 13 = .ok (.istore 6, 2) := by decide +kernel
theorem d15 : decode yB 15 = .ok (.iload 6, 2) := by decide +kernel
theorem d17 : decode yB 17 = .ok (.sipush 255, 3) := by decide +kernel
theorem d20 : decode yB 20 = .ok (.if_icmp (.le) 6, 3) := by decide +kernel
theorem d26 : decode yB 26 = .ok (.aload_n 2, 1) := by decide +kernel
theorem d27 : decode yB 27 = .ok (.iload_n 3, 1) := by decide +kernel
theorem d28 : decode yB 28 = .ok (.iload 6, 2) := by decide +kernel
theorem d30 : decode yB 30 = .ok (.i2b, 1) := by decide +kernel
theorem d31 : decode yB 31 = .ok (.bastore, 1) := by decide +kernel
theorem d32 : decode yB 32 = .ok (.iinc 1 1, 3) := by decide +kernel
theorem d35 : decode yB 35 = .ok (.iinc 3 1, 3) := by decide +kernel
theorem d38 : decode yB 38 = .ok (.iinc 5 1, 3) := by decide +kernel
theorem d41 : decode yB 41 = .ok (.goto (-38), 3) := by decide +kernel
theorem d44 : decode yB 44 = .ok (.iload 4, 2) := by decide +kernel
theorem d46 : decode yB 46 = .ok (.ireturn, 1) := by decide +kernel
def site : List Cond := []
def tab : Cond := tabOf yN yB 7 (some .int) site
def P (b : Addr) (A : Cell) (d : Addr) (B : Cell) (o q len : Nat) (args : Array Value) (s : State) : Prop := args = #[.ref b, .int (Int32.ofNat o), .ref d, .int (Int32.ofNat q), .int (Int32.ofNat len)] ∧ Ch b A s ∧ Arr .byte d B s ∧ b ≠ d ∧ o + len ≤ A.slots.size ∧ q + len ≤ B.slots.size ∧ ∀ i, i < len → ¬ 255 < cv A (o + i)
def E (b : Addr) (A : Cell) (d : Addr) (B : Cell) (o q len : Nat) (r : Option Value) (s u : State) : Prop := r = some (.int (Int32.ofNat len)) ∧ ∃ B', Put d B' s u ∧ Laid B B' q (q + len) (fun j => Value.int (lo8 (cv A (o + (j - q)))))
/-- no char of the range above 255: len; the places written hold each char's low byte -/
theorem law (l : Launch) (b : Addr) (A : Cell) (d : Addr) (B : Cell) (o q len : Nat) : Law l yN 5 5 0 0 yB 7 (some .int) site (P b A d B o q len) (E b A d B o q len) (copyLocs d q len) 0 0 := by
  refine Law.of_walk (plainFor_of_name (by decide +kernel)) (by decide +kernel) (by decide +kernel) (by decide) (fun _ _ h => by rw [h.1]; rfl) (fun _ U U' hal hh h => ⟨h.1, h.2.1.mv hal hh, h.2.2.1.mv hal hh, h.2.2.2⟩) (fun r U U' V V' h1 hal h2 h => ⟨h.1, h.2.elim fun B' q => ⟨B', q.1.mv h1 h2, q.2⟩⟩) ?_
  intro p e s m args below meth c s₁ X0 hexec hbytes hml hret hlk hnm hown hh0 W hP
  obtain ⟨rfl, hA, hB, hne, l1, l2, hp⟩ := hP
  have c1 : Steps p.tables e below (s₁.setTop (entryFrame m #[.ref b, .int (Int32.ofNat o), .ref d, .int (Int32.ofNat q), .int (Int32.ofNat len)] 7)) (s₁.setTop (mkF m 0 #[.val (.ref b), .val (.int (Int32.ofNat o)), .val (.ref d), .val (.int (Int32.ofNat q)), .val (.int (Int32.ofNat len)), .unset, .unset] [])) := entry rfl
  have hA0 := hA.1.mv X0.warmed.alike hh0
  have hB0 := hB.mv X0.warmed.alike hh0
  have a31 := hA.1.2.2.2
  have c2 : Steps p.tables e below (s₁.setTop (entryFrame m #[.ref b, .int (Int32.ofNat o), .ref d, .int (Int32.ofNat q), .int (Int32.ofNat len)] 7)) (s₁.setTop (mkF m 3 #[.val (.ref b), .val (.int (Int32.ofNat o)), .val (.ref d), .val (.int (Int32.ofNat q)), .val (.int (Int32.ofNat len)), .val (.int 0), .unset] [])) := c1.trans (by
    refine iconstV X0.here hexec rfl 0 (hb hbytes d0) (by decide) ?_
    refine XS.istore X0.here hexec rfl (hb hbytes d1) rfl rfl ?_
    exact Steps.refl _)
  have loop : ∀ (r i : Nat), i + r = len → ∀ (z : Slot), (z = .unset ∨ ∃ w, z = .val w ∧ w.category = 1) → ∀ (Tl : State) (Bk : Cell), Stand p l e { frames := 0, locals := 0, cells := 0, slots := 0 } s m #[.ref b, .int (Int32.ofNat o), .ref d, .int (Int32.ofNat q), .int (Int32.ofNat len)] below meth c Tl ([] ++ copyLocs d q i) 0 0 → Put d Bk s₁ Tl → Laid B Bk q (q + i) (fun j => Value.int (lo8 (cv A (o + (j - q))))) →
      Steps p.tables e below (s₁.setTop (entryFrame m #[.ref b, .int (Int32.ofNat o), .ref d, .int (Int32.ofNat q), .int (Int32.ofNat len)] 7)) (Tl.setTop (mkF m 3 #[.val (.ref b), .val (.int (Int32.ofNat (o + i))), .val (.ref d), .val (.int (Int32.ofNat (q + i))), .val (.int (Int32.ofNat len)), .val (.int (Int32.ofNat i)), z] [])) → ∃ (T' : State) (B' : Cell) (z' : Slot), Stand p l e { frames := 0, locals := 0, cells := 0, slots := 0 } s m #[.ref b, .int (Int32.ofNat o), .ref d, .int (Int32.ofNat q), .int (Int32.ofNat len)] below meth c T' ([] ++ copyLocs d q len) 0 0 ∧ Put d B' s₁ T' ∧ Laid B B' q (q + len) (fun j => Value.int (lo8 (cv A (o + (j - q))))) ∧
      Steps p.tables e below (s₁.setTop (entryFrame m #[.ref b, .int (Int32.ofNat o), .ref d, .int (Int32.ofNat q), .int (Int32.ofNat len)] 7)) (T'.setTop (mkF m 3 #[.val (.ref b), .val (.int (Int32.ofNat (o + len))), .val (.ref d), .val (.int (Int32.ofNat (q + len))), .val (.int (Int32.ofNat len)), .val (.int (Int32.ofNat len)), z'] [])) := by
    intro r
    induction r with
    | zero =>
      intro i hi z hz Tl Bk Xl pl fl cl
      have hil : i = len := by omega
      rw [hil] at Xl fl cl
      exact ⟨Tl, Bk, z, Xl, pl, fl, cl⟩
    | succ r ih =>
      intro i hi z hz Tl Bk Xl pl fl cl
      have all := X0.warmed.alike.symm.trans Xl.warmed.alike
      have hAl := hA0.keep all (pl.other hne hA0.1)
      have hBk := hB0.like all pl.1 fl.1 fl.2.1 fl.2.2.1
      have hlt : q + i < Bk.slots.size := by rw [fl.2.2.1]; omega
      have c3 : Steps p.tables e below (s₁.setTop (entryFrame m #[.ref b, .int (Int32.ofNat o), .ref d, .int (Int32.ofNat q), .int (Int32.ofNat len)] 7)) (Tl.setTop (mkF m 12 #[.val (.ref b), .val (.int (Int32.ofNat (o + i))), .val (.ref d), .val (.int (Int32.ofNat (q + i))), .val (.int (Int32.ofNat len)), .val (.int (Int32.ofNat i)), z] [.int (Int32.ofNat (o + i)), .ref b])) := cl.trans (by
        refine XS.iload Xl.here hexec rfl (hb hbytes d3) rfl ?_
        refine XS.iload Xl.here hexec rfl (hb hbytes d5) rfl ?_
        refine XS.icmpNo Xl.here hexec rfl (hb hbytes d7) rfl (ii_ge_f (lt32 (by omega) (by omega))) ?_
        refine XS.aloadN Xl.here hexec rfl (hb hbytes d10) rfl rfl ?_
        refine XS.iloadN Xl.here hexec rfl (hb hbytes d11) rfl ?_
        exact Steps.refl _)
      have c4 : Steps p.tables e below (s₁.setTop (entryFrame m #[.ref b, .int (Int32.ofNat o), .ref d, .int (Int32.ofNat q), .int (Int32.ofNat len)] 7)) (Tl.setTop (mkF m 13 #[.val (.ref b), .val (.int (Int32.ofNat (o + i))), .val (.ref d), .val (.int (Int32.ofNat (q + i))), .val (.int (Int32.ofNat len)), .val (.int (Int32.ofNat i)), z] [.int (cv A (o + i))])) := c3.trans (by
        refine Xl.aget hexec hAl rfl (hA.get (i := o + i) (by omega)) rfl rfl (hb hbytes d12) ?_
        exact Steps.refl _)
      have c5 : Steps p.tables e below (s₁.setTop (entryFrame m #[.ref b, .int (Int32.ofNat o), .ref d, .int (Int32.ofNat q), .int (Int32.ofNat len)] 7)) (Tl.setTop (mkF m 15 #[.val (.ref b), .val (.int (Int32.ofNat (o + i))), .val (.ref d), .val (.int (Int32.ofNat (q + i))), .val (.int (Int32.ofNat len)), .val (.int (Int32.ofNat i)), .val (.int (cv A (o + i)))] [])) := c4.trans (by
        refine XS.istoreS Xl.here hexec rfl (hb hbytes d13) rfl rfl hz ?_
        exact Steps.refl _)
      have c6 : Steps p.tables e below (s₁.setTop (entryFrame m #[.ref b, .int (Int32.ofNat o), .ref d, .int (Int32.ofNat q), .int (Int32.ofNat len)] 7)) (Tl.setTop (mkF m 31 #[.val (.ref b), .val (.int (Int32.ofNat (o + i))), .val (.ref d), .val (.int (Int32.ofNat (q + i))), .val (.int (Int32.ofNat len)), .val (.int (Int32.ofNat i)), .val (.int (cv A (o + i)))] [.int (lo8 (cv A (o + i))), .int (Int32.ofNat (q + i)), .ref d])) := c5.trans (by
        refine XS.iload Xl.here hexec rfl (hb hbytes d15) rfl ?_
        refine sipushV Xl.here hexec rfl 255 (hb hbytes d17) (by decide) ?_
        refine XS.icmpYes Xl.here hexec rfl (pc0 := 20) rfl (hb hbytes d20) rfl (ii_le_t (hp i (by omega))) (by decide) rfl ?_
        refine XS.aloadN Xl.here hexec rfl (hb hbytes d26) rfl rfl ?_
        refine XS.iloadN Xl.here hexec rfl (hb hbytes d27) rfl ?_
        refine XS.iload Xl.here hexec rfl (hb hbytes d28) rfl ?_
        refine i2b Xl.here hexec rfl (hb hbytes d30) rfl ?_
        exact Steps.refl _)
      obtain ⟨T7, X7, p7, st7⟩ := Xl.aput hexec hBk rfl hlt rfl (fits_lo8 (cv A (o + i))) (g := (mkF m 31 #[.val (.ref b), .val (.int (Int32.ofNat (o + i))), .val (.ref d), .val (.int (Int32.ofNat (q + i))), .val (.int (Int32.ofNat len)), .val (.int (Int32.ofNat i)), .val (.int (cv A (o + i)))] [.int (lo8 (cv A (o + i))), .int (Int32.ofNat (q + i)), .ref d])) rfl (rest := []) rfl (hb hbytes d31)
      have c8 : Steps p.tables e below (s₁.setTop (entryFrame m #[.ref b, .int (Int32.ofNat o), .ref d, .int (Int32.ofNat q), .int (Int32.ofNat len)] 7)) (T7.setTop (mkF m 32 #[.val (.ref b), .val (.int (Int32.ofNat (o + i))), .val (.ref d), .val (.int (Int32.ofNat (q + i))), .val (.int (Int32.ofNat len)), .val (.int (Int32.ofNat i)), .val (.int (cv A (o + i)))] [])) := c6.trans (st7 _ (Steps.refl _))
      have c9 : Steps p.tables e below (s₁.setTop (entryFrame m #[.ref b, .int (Int32.ofNat o), .ref d, .int (Int32.ofNat q), .int (Int32.ofNat len)] 7)) (T7.setTop (mkF m 3 #[.val (.ref b), .val (.int (Int32.ofNat (o + i) + 1)), .val (.ref d), .val (.int (Int32.ofNat (q + i) + 1)), .val (.int (Int32.ofNat len)), .val (.int (Int32.ofNat i + 1)), .val (.int (cv A (o + i)))] [])) := c8.trans (by
        refine iincV X7.here hexec rfl 1 (hb hbytes d32) (by decide) rfl rfl ?_
        refine iincV X7.here hexec rfl 1 (hb hbytes d35) (by decide) rfl rfl ?_
        refine iincV X7.here hexec rfl 1 (hb hbytes d38) (by decide) rfl rfl ?_
        refine XS.goto X7.here hexec rfl (pc0 := 41) rfl (hb hbytes d41) (by decide) rfl ?_
        exact Steps.refl _)
      have c10 : Steps p.tables e below (s₁.setTop (entryFrame m #[.ref b, .int (Int32.ofNat o), .ref d, .int (Int32.ofNat q), .int (Int32.ofNat len)] 7)) (T7.setTop (mkF m 3 #[.val (.ref b), .val (.int (Int32.ofNat (o + (i + 1)))), .val (.ref d), .val (.int (Int32.ofNat (q + (i + 1)))), .val (.int (Int32.ofNat len)), .val (.int (Int32.ofNat (i + 1))), .val (.int (cv A (o + i)))] [])) := by
        have := c9
        rw [succ32, succ32, succ32] at this
        exact this
      exact ih (i + 1) (by omega) _ (Or.inr ⟨_, rfl, rfl⟩) T7 _ (by rw [copyLocs_step, ← List.append_assoc]; exact X7) (pl.trans p7) (fl.step (by omega) hlt (by simp)) c10
  obtain ⟨T9, B9, z9, X9, p9, f9, g9⟩ := loop len 0 (by omega) .unset (Or.inl rfl) s₁ B (by simpa [copyLocs] using X0) ⟨hB0.1, fun _ _ => rfl, rfl⟩ (Laid.zero _ _ _) c2
  have c11 : Steps p.tables e below (s₁.setTop (entryFrame m #[.ref b, .int (Int32.ofNat o), .ref d, .int (Int32.ofNat q), .int (Int32.ofNat len)] 7)) (T9.setTop (mkF m 46 #[.val (.ref b), .val (.int (Int32.ofNat (o + len))), .val (.ref d), .val (.int (Int32.ofNat (q + len))), .val (.int (Int32.ofNat len)), .val (.int (Int32.ofNat len)), z9] [.int (Int32.ofNat len)])) := g9.trans (by
    refine XS.iload X9.here hexec rfl (hb hbytes d3) rfl ?_
    refine XS.iload X9.here hexec rfl (hb hbytes d5) rfl ?_
    refine XS.icmpYes X9.here hexec rfl (pc0 := 7) rfl (hb hbytes d7) rfl (ii_ge_t (nlt32 (by omega) (Nat.le_refl _))) (by decide) rfl ?_
    refine XS.iload X9.here hexec rfl (hb hbytes d44) rfl ?_
    exact Steps.refl _)
  exact ⟨T9, some (.int (Int32.ofNat len)), _, _, _, X9, by simp, rfl, rfl, (fun h => by cases h), ⟨rfl, B9, p9.from hh0, f9⟩, fun fs hl => c11.trans (X9.ireturnOut hexec hret rfl (Or.inl rfl) (hb hbytes d46) hl)⟩
end Cmp5
namespace Cmp3
def yN : MethodName := ⟨"java/lang/StringUTF16", "compress", "([CII)[B"⟩
abbrev yB : ByteArray := jdk_52_method_16_code
theorem d0 : decode yB 0 = .ok (.iload_n 2, 1) := by decide +kernel
theorem d1 : decode yB 1 = .ok (.newarray .byte, 2) := by decide +kernel
theorem d3 : decode yB 3 = .ok (.astore_n 3, 1) := by decide +kernel
theorem d4 : decode yB 4 = .ok (.aload_n 0, 1) := by decide +kernel
theorem d5 : decode yB 5 = .ok (.iload_n 1, 1) := by decide +kernel
theorem d6 : decode yB 6 = .ok (.aload_n 3, 1) := by decide +kernel
theorem d7 : decode yB 7 = .ok (.iconst 0, 1) := by decide +kernel
theorem d8 : decode yB 8 = .ok (.iload_n 2, 1) := by decide +kernel
theorem d9 : decode yB 9 = .ok (.invokestatic 115, 3) := by decide +kernel
theorem d12 : decode yB 12 = .ok (.istore 4, 2) := by decide +kernel
theorem d14 : decode yB 14 = .ok (.iload 4, 2) := by decide +kernel
theorem d16 : decode yB 16 = .ok (.iload_n 2, 1) := by decide +kernel
theorem d17 : decode yB 17 = .ok (.if_icmp (.eq) 40, 3) := by decide +kernel
theorem d57 : decode yB 57 = .ok (.aload_n 3, 1) := by decide +kernel
theorem d58 : decode yB 58 = .ok (.areturn, 1) := by decide +kernel
def site : List Cond := [.arrayClass .byte, Cmp5.tab] ++ staticW U16 115 Cmp5.yN
def tab : Cond := tabOf yN yB 6 (some (.array .byte)) site
def P (b : Addr) (A : Cell) (o len : Nat) (args : Array Value) (s : State) : Prop := args = #[.ref b, .int (Int32.ofNat o), .int (Int32.ofNat len)] ∧ Ch b A s ∧ o + len ≤ A.slots.size ∧ len ≤ 536870912 ∧ ∀ i, i < len → ¬ 255 < cv A (o + i)
def E (b : Addr) (A : Cell) (o len : Nat) (r : Option Value) (s u : State) : Prop := NewArr .byte "[B" len (fun j => .int (lo8 (cv A (o + j)))) r s u ∧ u.heap.size = s.heap.size + 1
/-- no char of the range above 255: a new byte[] of their low bytes -/
theorem law (l : Launch) (b : Addr) (A : Cell) (o len : Nat) : Law l yN 3 3 1 18 yB 6 (some (.array .byte)) site (P b A o len) (E b A o len) [] 1 len := by
  refine Law.of_walk (plainFor_of_name (by decide +kernel)) (by decide +kernel) (by decide +kernel) (by decide) (fun _ _ h => by rw [h.1]; rfl) (fun _ U U' hal hh h => ⟨h.1, h.2.1.mv hal hh, h.2.2⟩) (fun r U U' V V' h1 hal h2 h => ⟨NewArr.mv r U U' V V' h1 hal h2 h.1, by rw [h1, h2]; exact h.2⟩) ?_
  intro p e s m args below meth c s₁ X0 hexec hbytes hml hret hlk hnm hown hh0 W hP
  obtain ⟨rfl, hA, l1, l2, hp⟩ := hP
  have a31 := hA.1.2.2.2
  have c1 : Steps p.tables e below (s₁.setTop (entryFrame m #[.ref b, .int (Int32.ofNat o), .int (Int32.ofNat len)] 6)) (s₁.setTop (mkF m 0 #[.val (.ref b), .val (.int (Int32.ofNat o)), .val (.int (Int32.ofNat len)), .unset, .unset, .unset] [])) := entry rfl
  have c2 : Steps p.tables e below (s₁.setTop (entryFrame m #[.ref b, .int (Int32.ofNat o), .int (Int32.ofNat len)] 6)) (s₁.setTop (mkF m 1 #[.val (.ref b), .val (.int (Int32.ofNat o)), .val (.int (Int32.ofNat len)), .unset, .unset, .unset] [.int (Int32.ofNat len)])) := c1.trans (by
    refine XS.iloadN X0.here hexec rfl (hb hbytes d0) rfl ?_
    exact Steps.refl _)
  obtain ⟨T3, B3, X3, ba3, bs3, bv3, bh3, bf3, st3⟩ := X0.anew hexec (atype := .byte) (wk W (.arrayClass .byte)) rfl (by show len * 1 ≤ _; omega) (by omega) (g := (mkF m 1 #[.val (.ref b), .val (.int (Int32.ofNat o)), .val (.int (Int32.ofNat len)), .unset, .unset, .unset] [.int (Int32.ofNat len)])) rfl (hb hbytes d1) (rest := []) rfl (Nat.le_refl _) (by show 0 + len ≤ len; omega)
  rw [hh0] at ba3 st3
  have kp3 : XT.Kept s T3 := (XT.Kept.of_eq hh0).push bh3
  have hA3 := hA.keep X3.warmed.alike (kp3 _ _ hA.1.1)
  have hne : b ≠ s.heap.size := hA.1.ne
  have c4 : Steps p.tables e below (s₁.setTop (entryFrame m #[.ref b, .int (Int32.ofNat o), .int (Int32.ofNat len)] 6)) (T3.setTop (mkF m 3 #[.val (.ref b), .val (.int (Int32.ofNat o)), .val (.int (Int32.ofNat len)), .unset, .unset, .unset] [.ref s.heap.size])) := c2.trans (st3 _ (Steps.refl _))
  have c5 : Steps p.tables e below (s₁.setTop (entryFrame m #[.ref b, .int (Int32.ofNat o), .int (Int32.ofNat len)] 6)) (T3.setTop (mkF m 9 #[.val (.ref b), .val (.int (Int32.ofNat o)), .val (.int (Int32.ofNat len)), .val (.ref s.heap.size), .unset, .unset] [.int (Int32.ofNat len), .int 0, .ref s.heap.size, .int (Int32.ofNat o), .ref b])) := c4.trans (by
    refine XS.astoreN X3.here hexec rfl (hb hbytes d3) rfl rfl rfl ?_
    refine XS.aloadN X3.here hexec rfl (hb hbytes d4) rfl rfl ?_
    refine XS.iloadN X3.here hexec rfl (hb hbytes d5) rfl ?_
    refine XS.aloadN X3.here hexec rfl (hb hbytes d6) rfl rfl ?_
    refine iconstV X3.here hexec rfl 0 (hb hbytes d7) (by decide) ?_
    refine XS.iloadN X3.here hexec rfl (hb hbytes d8) rfl ?_
    exact Steps.refl _)
  obtain ⟨v6, T6, X6, E6, g6⟩ := X3.callS hexec (Cmp5.law l b A s.heap.size B3 o 0 len) hown (wks W (staticW U16 115 Cmp5.yN)) (wk W Cmp5.tab) (W := 0) (Nat.le_of_ble_eq_true rfl) (Nat.le_of_ble_eq_true rfl) (Nat.le_refl _) (by show 0 + len + 0 ≤ len; omega) (g := (mkF m 9 #[.val (.ref b), .val (.int (Int32.ofNat o)), .val (.int (Int32.ofNat len)), .val (.ref s.heap.size), .unset, .unset] [.int (Int32.ofNat len), .int (Int32.ofNat 0), .ref s.heap.size, .int (Int32.ofNat o), .ref b])) rfl (by rw [hml]; rfl) c5 (argsL := [.ref b, .int (Int32.ofNat o), .ref s.heap.size, .int (Int32.ofNat 0), .int (Int32.ofNat len)]) (rest := []) rfl rfl (by show 2 * 0 + 0 ≤ _; decide) (hb hbytes d9) (⟨rfl, hA3, ba3, hne, l1, by rw [bs3]; simp, hp⟩)
  obtain ⟨rfl, B6, p6, f6⟩ := E6
  have c7 : Steps p.tables e below (s₁.setTop (entryFrame m #[.ref b, .int (Int32.ofNat o), .int (Int32.ofNat len)] 6)) (T6.setTop (mkF m 12 #[.val (.ref b), .val (.int (Int32.ofNat o)), .val (.int (Int32.ofNat len)), .val (.ref s.heap.size), .unset, .unset] [.int (Int32.ofNat len)])) := g6
  have c8 : Steps p.tables e below (s₁.setTop (entryFrame m #[.ref b, .int (Int32.ofNat o), .int (Int32.ofNat len)] 6)) (T6.setTop (mkF m 58 #[.val (.ref b), .val (.int (Int32.ofNat o)), .val (.int (Int32.ofNat len)), .val (.ref s.heap.size), .val (.int (Int32.ofNat len)), .unset] [.ref s.heap.size])) := c7.trans (by
    refine XS.istore X6.here hexec rfl (hb hbytes d12) rfl rfl ?_
    refine XS.iload X6.here hexec rfl (hb hbytes d14) rfl ?_
    refine XS.iloadN X6.here hexec rfl (hb hbytes d16) rfl ?_
    refine XS.icmpYes X6.here hexec rfl (pc0 := 17) rfl (hb hbytes d17) rfl (ii_eq_t rfl) (by decide) rfl ?_
    refine XS.aloadN X6.here hexec rfl (hb hbytes d57) rfl rfl ?_
    exact Steps.refl _)
  have X8 := X6.wide (L' := []) (cells' := 1) (slots' := len) (fun x hx hlt => by
    simp only [List.nil_append, copyLocs, List.mem_map, List.mem_range] at hx
    obtain ⟨i, -, rfl⟩ := hx
    exact absurd hlt (Nat.lt_irrefl _)) (Nat.le_refl _) (by omega)
  exact ⟨T6, some (.ref s.heap.size), _, _, _, X8, rfl, rfl, rfl, (fun h => by cases h), ⟨⟨rfl, B6, ba3.like (X3.warmed.alike.symm.trans X6.warmed.alike) p6.1 f6.1 f6.2.1 f6.2.2.1, f6.2.1.trans bv3, by rw [X6.warmed.alike.findClass, f6.1]; exact bf3, by rw [f6.2.2.1, bs3]; simp, fun j hj => by rw [f6.2.2.2 j, if_pos (by omega)]; rfl, kp3.put p6 (Nat.le_refl _)⟩, by rw [p6.2.2, bh3, hh0]; simp⟩, fun fs hl => c8.trans (X8.areturnOut hexec rfl hret rfl (hb hbytes d58) hl)⟩
end Cmp3
namespace CodL
def yN : MethodName := ⟨"java/lang/StringUTF16", "coderFromArrayLen", "([BI)B"⟩
abbrev yB : ByteArray := jdk_52_method_15_code
theorem d0 : decode yB 0 = .ok (.iload_n 1, 1) := by decide +kernel
theorem d1 : decode yB 1 = .ok (.aload_n 0, 1) := by decide +kernel
theorem d2 : decode yB 2 = .ok (.arraylength, 1) := by decide +kernel
theorem d3 : decode yB 3 = .ok (.isub, 1) := by decide +kernel
theorem d4 : decode yB 4 = .ok (.bipush 31, 2) := by decide +kernel
theorem d6 : decode yB 6 = .ok (.iushr, 1) := by decide +kernel
theorem d7 : decode yB 7 = .ok (.i2b, 1) := by decide +kernel
theorem d8 : decode yB 8 = .ok (.ireturn, 1) := by decide +kernel
def site : List Cond := []
def tab : Cond := tabOf yN yB 2 (some .byte) site
def P (d : Addr) (B : Cell) (args : Array Value) (s : State) : Prop := args = #[.ref d, .int (Int32.ofNat B.slots.size)] ∧ Arr .byte d B s
def E (r : Option Value) (s u : State) : Prop := XT.PureE (some (.int 0)) r s u
/-- an array as long as the number of chars: LATIN1 -/
theorem law (l : Launch) (d : Addr) (B : Cell) : Law l yN 2 2 0 0 yB 2 (some .byte) site (P d B) E [] 0 0 := by
  refine Law.of_walk (plainFor_of_name (by decide +kernel)) (by decide +kernel) (by decide +kernel) (by decide) (fun _ _ h => by rw [h.1]; rfl) (fun _ U U' hal hh h => ⟨h.1, h.2.mv hal hh⟩) (fun r U U' V V' h1 hal h2 h => XT.PureE.mv r U U' V V' h1 hal h2 h) ?_
  intro p e s m args below meth c s₁ X0 hexec hbytes hml hret hlk hnm hown hh0 W hP
  obtain ⟨rfl, hB⟩ := hP
  have hB0 := hB.mv X0.warmed.alike hh0
  have c1 : Steps p.tables e below (s₁.setTop (entryFrame m #[.ref d, .int (Int32.ofNat B.slots.size)] 2)) (s₁.setTop (mkF m 0 #[.val (.ref d), .val (.int (Int32.ofNat B.slots.size))] [])) := entry rfl
  have c2 : Steps p.tables e below (s₁.setTop (entryFrame m #[.ref d, .int (Int32.ofNat B.slots.size)] 2)) (s₁.setTop (mkF m 2 #[.val (.ref d), .val (.int (Int32.ofNat B.slots.size))] [.ref d, .int (Int32.ofNat B.slots.size)])) := c1.trans (by
    refine XS.iloadN X0.here hexec rfl (hb hbytes d0) rfl ?_
    refine XS.aloadN X0.here hexec rfl (hb hbytes d1) rfl rfl ?_
    exact Steps.refl _)
  have c3 : Steps p.tables e below (s₁.setTop (entryFrame m #[.ref d, .int (Int32.ofNat B.slots.size)] 2)) (s₁.setTop (mkF m 8 #[.val (.ref d), .val (.int (Int32.ofNat B.slots.size))] [.int (lo8 (ushr (Int32.ofNat B.slots.size - Int32.ofNat B.slots.size) 31))])) := c2.trans (by
    refine X0.alen hexec hB0 rfl rfl (hb hbytes d2) ?_
    refine XS.isub X0.here hexec rfl (hb hbytes d3) rfl ?_
    refine bipushV X0.here hexec rfl 31 (hb hbytes d4) (by decide) ?_
    refine iushr X0.here hexec rfl (hb hbytes d6) rfl ?_
    refine i2b X0.here hexec rfl (hb hbytes d7) rfl ?_
    exact Steps.refl _)
  have e0 : lo8 (ushr (Int32.ofNat B.slots.size - Int32.ofNat B.slots.size) 31) = 0 := by rw [Int32.sub_self]; decide
  rw [e0] at c3
  exact ⟨s₁, some (.int 0), _, _, _, X0, rfl, rfl, rfl, (fun h => by cases h), ⟨rfl, hh0⟩, fun fs hl => c3.trans (X0.ireturnOut hexec hret rfl (Or.inr (Or.inr (Or.inl rfl))) (hb hbytes d8) hl)⟩
end CodL
/-- the String at a is Latin-1 over a new byte[] (the heap's one new cell): the low bytes of the len chars of A from o on; every cell but a is kept -/
def Got (a : Addr) (D : Cell) (fV fC : Field) (A : Cell) (o len : Nat) (r : Option Value) (s u : State) : Prop := r = none ∧ ∃ D' V : Cell, Blank "java/lang/String" a D' u ∧ Same D D' [fV.slot, fC.slot] ∧ D'.slots[fV.slot]? = some (.ref s.heap.size) ∧ D'.slots[fC.slot]? = some (.int 0) ∧ Arr .byte s.heap.size V u ∧ V.vm = .none ∧ u.vm.findClass "[B" = some V.cls ∧ V.slots.size = len ∧ (∀ j, j < len → V.slots[j]? = some (.int (lo8 (cv A (o + j))))) ∧ (∀ (y : Addr) (c : Cell), y ≠ a → s.heap[y]? = some c → u.heap[y]? = some c) ∧ u.heap.size = s.heap.size + 1
theorem Got.mv {a : Addr} {D A : Cell} {fV fC : Field} {o len : Nat} : ∀ r (U U' V V' : State), U'.heap = U.heap → V.vm.Alike V'.vm → V'.heap = V.heap → Got a D fV fC A o len r U V → Got a D fV fC A o len r U' V' :=
  fun r U U' V V' h1 hal h2 ⟨e0, D', X, a1, a2, a3, a4, a5, a6, a7, a8, a9, a10, a11⟩ => ⟨e0, D', X, a1.mv hal h2, a2, by rw [h1]; exact a3, a4, by rw [h1]; exact a5.mv hal h2, a6, by rw [hal.findClass]; exact a7, a8, a9, by rw [h1, h2]; exact a10, by rw [h1, h2]; exact a11⟩
namespace New4
def yN : MethodName := ⟨"java/lang/String", "<init>", "([CIILjava/lang/Void;)V"⟩
abbrev yB : ByteArray := jdk_42_method_149_code
theorem d0 : decode yB 0 = .ok (.aload_n 0, 1) := by decide +kernel
theorem d1 : decode yB 1 = .ok (.invokespecial 1, 3) := by decide +kernel
theorem d4 : decode yB 4 = .ok (.iload_n 3, 1) := by decide +kernel
theorem d5 : decode yB 5 = .ok (.ifCond (.ne) 22, 3) := by decide +kernel
theorem d27 : decode yB 27 = .ok (.getstatic 38, 3) := by decide +kernel
theorem d30 : decode yB 30 = .ok (.ifCond (.eq) 28, 3) := by decide +kernel
theorem d33 : decode yB 33 = .ok (.aload_n 1, 1) := by decide +kernel
theorem d34 : decode yB 34 = .ok (.iload_n 2, 1) := by decide +kernel
theorem d35 : decode yB 35 = .ok (.iload_n 3, 1) := by decide +kernel
theorem d36 : decode yB 36 = .ok (.invokestatic 177, 3) := by decide +kernel
theorem d39 : decode yB 39 = .ok (.astore 5, 2) := by decide +kernel
theorem d41 : decode yB 41 = .ok (.aload_n 0, 1) := by decide +kernel
theorem d42 : decode yB 42 = .ok (.aload 5, 2) := by decide +kernel
theorem d44 : decode yB 44 = .ok (.iload_n 3, 1) := by decide +kernel
theorem d45 : decode yB 45 = .ok (.invokestatic 47, 3) := by decide +kernel
theorem d48 : decode yB 48 = .ok (.putfield 15, 3) := by decide +kernel
theorem d51 : decode yB 51 = .ok (.aload_n 0, 1) := by decide +kernel
theorem d52 : decode yB 52 = .ok (.aload 5, 2) := by decide +kernel
theorem d54 : decode yB 54 = .ok (.putfield 9, 3) := by decide +kernel
theorem d57 : decode yB 57 = .ok (.return_, 1) := by decide +kernel
def site : List Cond := [.fieldLink "java/lang/String" 38 "java/lang/String" "COMPACT_STRINGS" "Z", Cmp3.tab, CodL.tab, .laysFinal "java/lang/String" "java/lang/String" "value" "[B", .fieldLink "java/lang/String" 9 "java/lang/String" "value" "[B", .laysFinal "java/lang/String" "java/lang/String" "coder" "B", .fieldLink "java/lang/String" 15 "java/lang/String" "coder" "B"] ++ objW "java/lang/String" 1 ++ staticW "java/lang/String" 177 Cmp3.yN ++ staticW "java/lang/String" 47 CodL.yN
def tab : Cond := tabOf yN yB 6 none site
def P (a : Addr) (D : Cell) (fV fC : Field) (b : Addr) (A : Cell) (z : Int32) (o len : Nat) (args : Array Value) (s : State) : Prop := args = #[.ref a, .ref b, .int (Int32.ofNat o), .int (Int32.ofNat len), .null] ∧ Blank "java/lang/String" a D s ∧ Found "java/lang/String" "value" "[B" fV s ∧ Found "java/lang/String" "coder" "B" fC s ∧ Ch b A s ∧ StaticIs s "java/lang/String" "COMPACT_STRINGS" "Z" (.int z) ∧ ¬ z = 0 ∧ 0 < len ∧ o + len ≤ A.slots.size ∧ len ≤ 536870912 ∧ ∀ i, i < len → ¬ 255 < cv A (o + i)
def E (a : Addr) (D : Cell) (fV fC : Field) (A : Cell) (o len : Nat) (r : Option Value) (s u : State) : Prop := Got a D fV fC A o len r s u
/-- len > 0, no char of the range above 255: a Latin-1 String of their low bytes -/
theorem law (l : Launch) (a : Addr) (D : Cell) (fV fC : Field) (b : Addr) (A : Cell) (z : Int32) (o len : Nat) : Law l yN 5 4 2 35 yB 6 none site (P a D fV fC b A z o len) (E a D fV fC A o len) [⟨a, fC.slot⟩, ⟨a, fV.slot⟩] 1 len := by
  refine Law.of_walk (plainFor_of_name (by decide +kernel)) (by decide +kernel) (by decide +kernel) (by decide) (fun _ _ h => by rw [h.1]; rfl) (fun _ U U' hal hh h => ⟨h.1, h.2.1.mv hal hh, h.2.2.1.al hal, h.2.2.2.1.al hal, h.2.2.2.2.1.mv hal hh, h.2.2.2.2.2.1.there hal hh, h.2.2.2.2.2.2⟩) (fun r U U' V V' h1 hal h2 h => Got.mv r U U' V V' h1 hal h2 h) ?_
  intro p e s m args below meth c s₁ X0 hexec hbytes hml hret hlk hnm hown hh0 W hP
  obtain ⟨rfl, hB, f1, f2, hA, s1, hz, l0, l1, l2, hp⟩ := hP
  have a31 := hA.1.2.2.2
  have c1 : Steps p.tables e below (s₁.setTop (entryFrame m #[.ref a, .ref b, .int (Int32.ofNat o), .int (Int32.ofNat len), .null] 6)) (s₁.setTop (mkF m 0 #[.val (.ref a), .val (.ref b), .val (.int (Int32.ofNat o)), .val (.int (Int32.ofNat len)), .val .null, .unset] [])) := entry rfl
  have c2 : Steps p.tables e below (s₁.setTop (entryFrame m #[.ref a, .ref b, .int (Int32.ofNat o), .int (Int32.ofNat len), .null] 6)) (s₁.setTop (mkF m 1 #[.val (.ref a), .val (.ref b), .val (.int (Int32.ofNat o)), .val (.int (Int32.ofNat len)), .val .null, .unset] [.ref a])) := c1.trans (by
    refine XS.aloadN X0.here hexec rfl (hb hbytes d0) rfl rfl ?_
    exact Steps.refl _)
  obtain ⟨T3, X3, q3, st3⟩ := X0.oinit hexec hown (wks W (objW "java/lang/String" 1)) (g := (mkF m 1 #[.val (.ref a), .val (.ref b), .val (.int (Int32.ofNat o)), .val (.int (Int32.ofNat len)), .val .null, .unset] [.ref a])) rfl (by rw [hml]; rfl) (rest := []) rfl (hb hbytes d1) (W := 0) (by show 2 * 0 + 0 ≤ _; decide) (Nat.le_of_ble_eq_true rfl) (Nat.le_of_ble_eq_true rfl)
  have hh3 := q3.trans hh0
  have c4 : Steps p.tables e below (s₁.setTop (entryFrame m #[.ref a, .ref b, .int (Int32.ofNat o), .int (Int32.ofNat len), .null] 6)) (T3.setTop (mkF m 27 #[.val (.ref a), .val (.ref b), .val (.int (Int32.ofNat o)), .val (.int (Int32.ofNat len)), .val .null, .unset] [])) := (c2.trans (st3 _ (Steps.refl _))).trans (by
    refine XS.iloadN X3.here hexec rfl (hb hbytes d4) rfl ?_
    refine XS.ifYes X3.here hexec rfl (pc0 := 5) rfl (hb hbytes d5) rfl (i0_ne_t (nz32 (by omega) l0)) (by decide) rfl ?_
    exact Steps.refl _)
  obtain ⟨T5, X5, q5, st5⟩ := X3.sget hexec hown (wk W (.fieldLink "java/lang/String" 38 "java/lang/String" "COMPACT_STRINGS" "Z")) s1 (fun _ _ h => by rw [hh3]; exact h) (g := (mkF m 27 #[.val (.ref a), .val (.ref b), .val (.int (Int32.ofNat o)), .val (.int (Int32.ofNat len)), .val .null, .unset] [])) rfl (hb hbytes d27)
  have hh5 := q5.trans hh3
  have c6 : Steps p.tables e below (s₁.setTop (entryFrame m #[.ref a, .ref b, .int (Int32.ofNat o), .int (Int32.ofNat len), .null] 6)) (T5.setTop (mkF m 30 #[.val (.ref a), .val (.ref b), .val (.int (Int32.ofNat o)), .val (.int (Int32.ofNat len)), .val .null, .unset] [.int z])) := c4.trans (st5 _ (Steps.refl _))
  have c7 : Steps p.tables e below (s₁.setTop (entryFrame m #[.ref a, .ref b, .int (Int32.ofNat o), .int (Int32.ofNat len), .null] 6)) (T5.setTop (mkF m 36 #[.val (.ref a), .val (.ref b), .val (.int (Int32.ofNat o)), .val (.int (Int32.ofNat len)), .val .null, .unset] [.int (Int32.ofNat len), .int (Int32.ofNat o), .ref b])) := c6.trans (by
    refine XS.ifNo X5.here hexec rfl (hb hbytes d30) rfl (i0_eq_f hz) ?_
    refine XS.aloadN X5.here hexec rfl (hb hbytes d33) rfl rfl ?_
    refine XS.iloadN X5.here hexec rfl (hb hbytes d34) rfl ?_
    refine XS.iloadN X5.here hexec rfl (hb hbytes d35) rfl ?_
    exact Steps.refl _)
  obtain ⟨v8, T8, X8, E8, g8⟩ := X5.callS hexec (Cmp3.law l b A o len) hown (wks W (staticW "java/lang/String" 177 Cmp3.yN)) (wk W Cmp3.tab) (W := 0) (Nat.le_of_ble_eq_true rfl) (Nat.le_of_ble_eq_true rfl) (Nat.le_refl _) (by show 0 + len ≤ len; omega) (g := (mkF m 36 #[.val (.ref a), .val (.ref b), .val (.int (Int32.ofNat o)), .val (.int (Int32.ofNat len)), .val .null, .unset] [.int (Int32.ofNat len), .int (Int32.ofNat o), .ref b])) rfl (by rw [hml]; rfl) c7 (argsL := [.ref b, .int (Int32.ofNat o), .int (Int32.ofNat len)]) (rest := []) rfl rfl (by show 2 * 0 + 0 ≤ _; decide) (hb hbytes d36) (⟨rfl, hA.mv X5.warmed.alike hh5, l1, l2, hp⟩)
  obtain ⟨e8, z8⟩ := E8
  obtain ⟨rfl, N, n1, n2, n3, n4, n5, n6⟩ := NewArr.mv _ T5 s _ _ hh5.symm (Vm.Alike.refl _) rfl e8
  rw [hh5] at z8
  have hB1 := hB.keep X8.warmed.alike (n6 _ _ hB.1)
  have hne : s.heap.size ≠ a := (Nat.ne_of_lt (Array.getElem?_eq_some_iff.mp hB.1).1).symm
  have c9 : Steps p.tables e below (s₁.setTop (entryFrame m #[.ref a, .ref b, .int (Int32.ofNat o), .int (Int32.ofNat len), .null] 6)) (T8.setTop (mkF m 39 #[.val (.ref a), .val (.ref b), .val (.int (Int32.ofNat o)), .val (.int (Int32.ofNat len)), .val .null, .unset] [.ref s.heap.size])) := g8
  have c10 : Steps p.tables e below (s₁.setTop (entryFrame m #[.ref a, .ref b, .int (Int32.ofNat o), .int (Int32.ofNat len), .null] 6)) (T8.setTop (mkF m 45 #[.val (.ref a), .val (.ref b), .val (.int (Int32.ofNat o)), .val (.int (Int32.ofNat len)), .val .null, .val (.ref s.heap.size)] [.int (Int32.ofNat N.slots.size), .ref s.heap.size, .ref a])) := by
    have hc : Steps p.tables e below (s₁.setTop (entryFrame m #[.ref a, .ref b, .int (Int32.ofNat o), .int (Int32.ofNat len), .null] 6)) (T8.setTop (mkF m 45 #[.val (.ref a), .val (.ref b), .val (.int (Int32.ofNat o)), .val (.int (Int32.ofNat len)), .val .null, .val (.ref s.heap.size)] [.int (Int32.ofNat len), .ref s.heap.size, .ref a])) := c9.trans (by
      refine XS.astore X8.here hexec rfl (hb hbytes d39) rfl rfl rfl ?_
      refine XS.aloadN X8.here hexec rfl (hb hbytes d41) rfl rfl ?_
      refine XS.aload X8.here hexec rfl (hb hbytes d42) rfl rfl ?_
      refine XS.iloadN X8.here hexec rfl (hb hbytes d44) rfl ?_
      exact Steps.refl _)
    rw [n4]; exact hc
  obtain ⟨v11, T11, X11, E11, g11⟩ := X8.callS hexec (CodL.law l s.heap.size N) hown (wks W (staticW "java/lang/String" 47 CodL.yN)) (wk W CodL.tab) (W := 1) (Nat.le_of_ble_eq_true rfl) (Nat.le_of_ble_eq_true rfl) (Nat.le_refl _) (by show 0 + len + 0 ≤ len; omega) (g := (mkF m 45 #[.val (.ref a), .val (.ref b), .val (.int (Int32.ofNat o)), .val (.int (Int32.ofNat len)), .val .null, .val (.ref s.heap.size)] [.int (Int32.ofNat N.slots.size), .ref s.heap.size, .ref a])) rfl (by rw [hml]; rfl) c10 (argsL := [.ref s.heap.size, .int (Int32.ofNat N.slots.size)]) (rest := [.ref a]) rfl rfl (by show 2 * 0 + (1 + 0) ≤ _; decide) (hb hbytes d45) (⟨rfl, n1⟩)
  obtain ⟨rfl, q11⟩ := E11
  have hB11 := hB1.mv (X8.warmed.alike.symm.trans X11.warmed.alike) q11
  have c12 : Steps p.tables e below (s₁.setTop (entryFrame m #[.ref a, .ref b, .int (Int32.ofNat o), .int (Int32.ofNat len), .null] 6)) (T11.setTop (mkF m 48 #[.val (.ref a), .val (.ref b), .val (.int (Int32.ofNat o)), .val (.int (Int32.ofNat len)), .val .null, .val (.ref s.heap.size)] [.int 0, .ref a])) := g11
  obtain ⟨T13, X13, p13, bl13, sl13, st13⟩ := X11.finit hexec hown (wk W (.fieldLink "java/lang/String" 15 "java/lang/String" "coder" "B")) (Or.inr ⟨_, (wk W (.laysFinal "java/lang/String" "java/lang/String" "coder" "B"))⟩) (Or.inl ⟨rfl, hnm⟩) f2 (Or.inl rfl) hB11 (t := .byte) (by decide +kernel) rfl (g := (mkF m 48 #[.val (.ref a), .val (.ref b), .val (.int (Int32.ofNat o)), .val (.int (Int32.ofNat len)), .val .null, .val (.ref s.heap.size)] [.int 0, .ref a])) rfl (rest := []) rfl (hb hbytes d48)
  have c14 : Steps p.tables e below (s₁.setTop (entryFrame m #[.ref a, .ref b, .int (Int32.ofNat o), .int (Int32.ofNat len), .null] 6)) (T13.setTop (mkF m 54 #[.val (.ref a), .val (.ref b), .val (.int (Int32.ofNat o)), .val (.int (Int32.ofNat len)), .val .null, .val (.ref s.heap.size)] [.ref s.heap.size, .ref a])) := (c12.trans (st13 _ (Steps.refl _))).trans (by
    refine XS.aloadN X13.here hexec rfl (hb hbytes d51) rfl rfl ?_
    refine XS.aload X13.here hexec rfl (hb hbytes d52) rfl rfl ?_
    exact Steps.refl _)
  obtain ⟨T15, X15, p15, bl15, sl15, st15⟩ := X13.finit hexec hown (wk W (.fieldLink "java/lang/String" 9 "java/lang/String" "value" "[B")) (Or.inr ⟨_, (wk W (.laysFinal "java/lang/String" "java/lang/String" "value" "[B"))⟩) (Or.inl ⟨rfl, hnm⟩) f1 (Or.inl rfl) bl13 (t := (.array .byte)) (by decide +kernel) rfl (g := (mkF m 54 #[.val (.ref a), .val (.ref b), .val (.int (Int32.ofNat o)), .val (.int (Int32.ofNat len)), .val .null, .val (.ref s.heap.size)] [.ref s.heap.size, .ref a])) rfl (rest := []) rfl (hb hbytes d54)
  have c16 : Steps p.tables e below (s₁.setTop (entryFrame m #[.ref a, .ref b, .int (Int32.ofNat o), .int (Int32.ofNat len), .null] 6)) (T15.setTop (mkF m 57 #[.val (.ref a), .val (.ref b), .val (.int (Int32.ofNat o)), .val (.int (Int32.ofNat len)), .val .null, .val (.ref s.heap.size)] [])) := c14.trans (st15 _ (Steps.refl _))
  have ap := apart (Or.inr ⟨_, (wk W (.laysFinal "java/lang/String" "java/lang/String" "value" "[B"))⟩) (Or.inr ⟨_, (wk W (.laysFinal "java/lang/String" "java/lang/String" "coder" "B"))⟩) f1 f2 (t₁ := .array .byte) (t₂ := .byte) (by decide +kernel) (by decide +kernel) (by decide)
  have al := X8.warmed.alike.symm.trans X15.warmed.alike
  have n7 : T11.heap[s.heap.size]? = some N := by rw [q11]; exact n1.1
  exact ⟨T15, none, _, _, _, X15, by simp, rfl, by omega, (fun _ => rfl), ⟨rfl, _, N, bl15, ((Same.refl D _).set _ (by simp)).set _ (by simp), sl15, (Cell.slots_setSlot_ne _ ap).trans sl13, n1.keep al (p15.other hne (p13.other hne n7)), n2, by rw [al.findClass]; exact n3, n4, n5, fun y c h1 h2 => p15.other h1 (p13.other h1 (by rw [q11]; exact n6 y c h2)), by rw [p15.2.2, p13.2.2, q11]; exact z8⟩, fun fs hl => c16.trans (X15.returnOut hexec hret (hb hbytes d57) hl)⟩
end New4
namespace New1
def yN : MethodName := ⟨"java/lang/String", "<init>", "([C)V"⟩
abbrev yB : ByteArray := jdk_42_method_3_code
theorem d0 : decode yB 0 = .ok (.aload_n 0, 1) := by decide +kernel
theorem d1 : decode yB 1 = .ok (.aload_n 1, 1) := by decide +kernel
theorem d2 : decode yB 2 = .ok (.iconst 0, 1) := by decide +kernel
theorem d3 : decode yB 3 = .ok (.aload_n 1, 1) := by decide +kernel
theorem d4 : decode yB 4 = .ok (.arraylength, 1) := by decide +kernel
theorem d5 : decode yB 5 = .ok (.aconst_null, 1) := by decide +kernel
theorem d6 : decode yB 6 = .ok (.invokespecial 27, 3) := by decide +kernel
theorem d9 : decode yB 9 = .ok (.return_, 1) := by decide +kernel
def site : List Cond := [New4.tab] ++ initW "java/lang/String" 27 New4.yN
def tab : Cond := tabOf yN yB 2 none site
def P (a : Addr) (D : Cell) (fV fC : Field) (b : Addr) (A : Cell) (z : Int32) (args : Array Value) (s : State) : Prop := args = #[.ref a, .ref b] ∧ Blank "java/lang/String" a D s ∧ Found "java/lang/String" "value" "[B" fV s ∧ Found "java/lang/String" "coder" "B" fC s ∧ Ch b A s ∧ StaticIs s "java/lang/String" "COMPACT_STRINGS" "Z" (.int z) ∧ ¬ z = 0 ∧ 0 < A.slots.size ∧ A.slots.size ≤ 536870912 ∧ ∀ i, i < A.slots.size → ¬ 255 < cv A i
def E (a : Addr) (D : Cell) (fV fC : Field) (A : Cell) (r : Option Value) (s u : State) : Prop := Got a D fV fC A 0 A.slots.size r s u
/-- new String(chars), not empty, no char above 255: a Latin-1 String of their low bytes -/
theorem law (l : Launch) (a : Addr) (D : Cell) (fV fC : Field) (b : Addr) (A : Cell) (z : Int32) : Law l yN 2 1 3 52 yB 2 none site (P a D fV fC b A z) (E a D fV fC A) [⟨a, fC.slot⟩, ⟨a, fV.slot⟩] 1 A.slots.size := by
  refine Law.of_walk (plainFor_of_name (by decide +kernel)) (by decide +kernel) (by decide +kernel) (by decide) (fun _ _ h => by rw [h.1]; rfl) (fun _ U U' hal hh h => ⟨h.1, h.2.1.mv hal hh, h.2.2.1.al hal, h.2.2.2.1.al hal, h.2.2.2.2.1.mv hal hh, h.2.2.2.2.2.1.there hal hh, h.2.2.2.2.2.2⟩) (fun r U U' V V' h1 hal h2 h => Got.mv r U U' V V' h1 hal h2 h) ?_
  intro p e s m args below meth c s₁ X0 hexec hbytes hml hret hlk hnm hown hh0 W hP
  obtain ⟨rfl, hB, f1, f2, hA, s1, hz, l0, l2, hp⟩ := hP
  have c1 : Steps p.tables e below (s₁.setTop (entryFrame m #[.ref a, .ref b] 2)) (s₁.setTop (mkF m 0 #[.val (.ref a), .val (.ref b)] [])) := entry rfl
  have c2 : Steps p.tables e below (s₁.setTop (entryFrame m #[.ref a, .ref b] 2)) (s₁.setTop (mkF m 6 #[.val (.ref a), .val (.ref b)] [.null, .int (Int32.ofNat A.slots.size), .int 0, .ref b, .ref a])) := c1.trans (by
    refine XS.aloadN X0.here hexec rfl (hb hbytes d0) rfl rfl ?_
    refine XS.aloadN X0.here hexec rfl (hb hbytes d1) rfl rfl ?_
    refine iconstV X0.here hexec rfl 0 (hb hbytes d2) (by decide) ?_
    refine XS.aloadN X0.here hexec rfl (hb hbytes d3) rfl rfl ?_
    refine X0.alen hexec (hA.1.mv X0.warmed.alike hh0) rfl rfl (hb hbytes d4) ?_
    refine XS.aconstNull X0.here hexec rfl (hb hbytes d5) ?_
    exact Steps.refl _)
  obtain ⟨v3, T3, X3, E3, g3⟩ := X0.callN hexec (New4.law l a D fV fC b A z 0 A.slots.size) rfl hown (wks W (initW "java/lang/String" 27 New4.yN)) (W New4.tab (by simp only [site, List.mem_cons, List.mem_append, true_or, or_true])) (W := 0) (Nat.le_of_ble_eq_true rfl) (Nat.le_of_ble_eq_true rfl) (Nat.le_refl _) (by show 0 + A.slots.size ≤ A.slots.size; omega) (g := (mkF m 6 #[.val (.ref a), .val (.ref b)] [.null, .int (Int32.ofNat A.slots.size), .int (Int32.ofNat 0), .ref b, .ref a])) rfl (by rw [hml]; rfl) c2 (argsL := [.ref b, .int (Int32.ofNat 0), .int (Int32.ofNat A.slots.size), .null]) (rest := []) rfl rfl (by show 2 * 0 + 0 ≤ _; decide) (hb hbytes d6) (⟨rfl, hB.mv X0.warmed.alike hh0, f1.al X0.warmed.alike, f2.al X0.warmed.alike, hA.mv X0.warmed.alike hh0, s1.there X0.warmed.alike hh0, hz, l0, by omega, l2, fun i hi => by rw [Nat.zero_add]; exact hp i hi⟩)
  have e0 := Got.mv _ s₁ s _ _ hh0.symm (Vm.Alike.refl _) rfl E3
  obtain rfl := e0.1
  have c4 : Steps p.tables e below (s₁.setTop (entryFrame m #[.ref a, .ref b] 2)) (T3.setTop (mkF m 9 #[.val (.ref a), .val (.ref b)] [])) := g3
  exact ⟨T3, none, _, _, _, X3, by simp, rfl, by omega, (fun _ => rfl), e0, fun fs hl => c4.trans (X3.returnOut hexec hret (hb hbytes d9) hl)⟩
theorem pays {l : Launch} {R : Room} {p : Program} {e : Env} {below : List Frame} {s : State} {sargs : Array Value} {len W : Nat} (a : Addr) (D : Cell) (fV fC : Field) (b : Addr) (A : Cell) (z : Int32) (htab : tab.before sargs s = true) (hfr : 4 ≤ R.frames) (hlo : W + 65 ≤ R.locals) :
    Back l R p e below s sargs yN len W (fun A₁ a₁ => A₁.cells + 1 ≤ R.cells ∧ A₁.slots + A.slots.size ≤ R.slots ∧ P a D fV fC b A z a₁ A₁.U) (fun A₁ _ v₁ B₁ => E a D fV fC A v₁ A₁.U B₁.U ∧ B₁.locs = A₁.locs ++ [⟨a, fC.slot⟩, ⟨a, fV.slot⟩] ∧ B₁.cells = A₁.cells + 1 ∧ B₁.slots = A₁.slots + A.slots.size) :=
  (law l a D fV fC b A z).pays htab hfr (by omega)
end New1
end StrChars
namespace StrChars.Road
open Jvm Sem ClassFile Op Lib Jvm.Stand Jvm.Free Jvm.Free.XT
open Jvm.Lib.Cold (StaticIs)
abbrev ST : String := "java/lang/String"
/-- every table word that New1's law asks, flat -/
abbrev words : List Jvm.Cond := [.code New1.yN New1.yB 2 none, .initialized ST, .methodLink ST 27 New4.yN, .instanceMethod New4.yN,
  .code New4.yN New4.yB 6 none, .fieldLink ST 38 ST "COMPACT_STRINGS" "Z", .laysFinal ST ST "value" "[B", .fieldLink ST 9 ST "value" "[B", .laysFinal ST ST "coder" "B", .fieldLink ST 15 ST "coder" "B",
  .methodLink ST 1 Lib.objectInit, .instanceMethod Lib.objectInit, .code Lib.objectInit ⟨#[0xb1]⟩ 1 none, .methodLink ST 177 Cmp3.yN, .static Cmp3.yN, .methodLink ST 47 CodL.yN, .static CodL.yN,
  .code Cmp3.yN Cmp3.yB 6 (some (.array .byte)), .initialized U16, .arrayClass .byte, .methodLink U16 115 Cmp5.yN, .static Cmp5.yN, .code Cmp5.yN Cmp5.yB 7 (some .int), .code CodL.yN CodL.yB 2 (some .byte)]
theorem tab_of {a : Array Value} {s : State} (h : ∀ w ∈ words, w.before a s = true) : New1.tab.before a s = true := by
  have h5 : Cmp5.tab.before a s = true := unparts (wk h (.code Cmp5.yN Cmp5.yB 7 (some .int))) (wks h (.initialized Cmp5.yN.cls :: Cmp5.site))
  have hc : CodL.tab.before a s = true := unparts (wk h (.code CodL.yN CodL.yB 2 (some .byte))) (wks h (.initialized CodL.yN.cls :: CodL.site))
  have q5 : ∀ w ∈ Cmp5.tab :: words, w.before a s = true := fun w hw => (List.mem_cons.mp hw).elim (fun e => e ▸ h5) (h w)
  have h3 : Cmp3.tab.before a s = true := unparts (wk q5 (.code Cmp3.yN Cmp3.yB 6 (some (.array .byte)))) (wks q5 (.initialized Cmp3.yN.cls :: Cmp3.site))
  have q3 : ∀ w ∈ Cmp3.tab :: CodL.tab :: words, w.before a s = true := fun w hw => (List.mem_cons.mp hw).elim (fun e => e ▸ h3) fun hw => (List.mem_cons.mp hw).elim (fun e => e ▸ hc) (h w)
  have h4 : New4.tab.before a s = true := unparts (wk q3 (.code New4.yN New4.yB 6 none)) (wks q3 (.initialized New4.yN.cls :: New4.site))
  have q4 : ∀ w ∈ New4.tab :: words, w.before a s = true := fun w hw => (List.mem_cons.mp hw).elim (fun e => e ▸ h4) (h w)
  exact unparts (wk q4 (.code New1.yN New1.yB 2 none)) (wks q4 (.initialized New1.yN.cls :: New1.site))
/-- the words ride from the start Z to the walk's own state -/
theorem moved {Z s : State} {a0 args : Array Value} (hZ : Z.Warmed39 s.vm) (hw : ∀ d ∈ words, d.before a0 Z = true) : ∀ d ∈ words, d.before args s = true := fun d hd => by
  have q := hw d hd
  have t : ∀ d ∈ words, d = .arrayClass .byte ∨ (d.onTables && d.keepsFace) = true := by decide +kernel
  rcases t d hd with rfl | t
  · exact RoadKit.mvA hZ q
  · exact RoadKit.mv hZ q t
/-- WHAT COMES BACK, over the tables of the start Z: h the heap at the call, h' behind it -/
def Q (Z : State) (x : Addr) (A : Cell) (h : Heap) (v : Option Value) (h' : Heap) (L : List Loc) : Prop := v = none ∧ (∀ y ∈ L, y.base = x) ∧ RoadKit.Keep h h' [x] ∧ h'.size = h.size + 1 ∧ RoadKit.Exa Z h' x ST ∧ RoadKit.Fld Z h' x ST "value" "[B" (.ref h.size) ∧ RoadKit.Fld Z h' x ST "coder" "B" (.int 0) ∧
  (∃ V : Cell, RoadKit.Arr Z h' h.size V .byte ∧ V.vm = .none ∧ Z.vm.findClass "[B" = some V.cls ∧ V.slots.size = A.slots.size ∧ ∀ j, j < A.slots.size → V.slots[j]? = some (.int (lo8 (cv A j)))) ∧
  ∀ (O n d : String) (w : Value), RoadKit.Fld Z h x O n d w → RoadKit.slotOf Z O n d ≠ RoadKit.slotOf Z ST "value" "[B" → RoadKit.slotOf Z O n d ≠ RoadKit.slotOf Z ST "coder" "B" → RoadKit.Fld Z h' x O n d w
/-- **new String(chars) AT A CALL, IN THE ROAD'S FORM**: for specialBack behind newO: x the fresh String, b the char[] with the cell A -/
theorem back {p : Program} {l : Launch} {e : Env} {R : Room} {s : State} {args : Array Value} {below : List Frame} {len W : Nat} {Z : State} {a0 : Array Value} {h : Heap} (hZ : Z.Warmed39 s.vm) (hw : ∀ d ∈ words, d.before a0 Z = true) {kI : Nat} (wi : (Jvm.Cond.instantiable ST kI).before a0 Z = true)
    {x b : Addr} {A : Cell} {z : Int32} {v0 c0 : Value} (E : RoadKit.Exa Z h x ST) (V : RoadKit.Fld Z h x ST "value" "[B" v0) (C : RoadKit.Fld Z h x ST "coder" "B" c0) (K : RoadKit.Arr Z h b A .char) (hty : Typed .char A) (S : RoadKit.Sta Z h ST "COMPACT_STRINGS" "Z" (.int z)) (hz : ¬ z = 0)
    (l0 : 0 < A.slots.size) (l2 : A.slots.size ≤ 536870912) (hp : ∀ i, i < A.slots.size → ¬ 255 < cv A i) (hfr : 4 ≤ R.frames) (hlo : W + 65 ≤ R.locals) :
    Back l R p e below s args New1.yN len W (fun P a => a = #[.ref x, .ref b] ∧ P.U.heap = h ∧ P.cells + 1 ≤ R.cells ∧ P.slots + A.slots.size ≤ R.slots)
      (fun P _ v B => ∃ L, Q Z x A h v B.U.heap L ∧ B.locs = P.locs ++ L ∧ B.cells = P.cells + 1 ∧ B.slots = P.slots + A.slots.size) := by
  intro m meth c P g ig mk a X hg hsize hdg hW hn hp'
  obtain ⟨rfl, rfl, r1, r2⟩ := hp'
  have al : Z.vm.Alike P.U.vm := hZ.alike.trans X.warmed.alike
  obtain ⟨D, cfV, kV, iV, fV, hD, gV, stV, knV, obV, asV, slV⟩ := id V
  obtain ⟨D', cfC, kC, iC, fC, hD', gC, stC, -, -, asC, slC⟩ := id C
  cases hD.symm.trans hD'
  obtain ⟨D2, kD, e1, e2, e3, e4, e5⟩ := id E
  cases hD.symm.trans e1
  obtain ⟨c2, k2, i1, i2, i3, -⟩ := Cond.instantiable_spec wi
  cases e2.symm.trans i1
  cases e3.symm.trans i2
  obtain ⟨kU, u1, u2⟩ := al.2.2 _ _ e3
  have hB : Blank ST x D P.U := ⟨hD, ⟨knV, fun q hq => by rw [hq] at obV; cases obV⟩, by rw [al.findClass]; exact e2, kU, u1, by rw [u2]; exact i3, by rw [u2]; exact e5 i3⟩
  have F1 : Found ST "value" "[B" fV P.U := ⟨SBG.found_only al ⟨cfV, kV, iV, gV⟩, stV⟩
  have F2 : Found ST "coder" "B" fC P.U := ⟨SBG.found_only al ⟨cfC, kC, iC, gC⟩, stC⟩
  have hA : Ch b A P.U := ⟨⟨K.1, State.isArrayOf_alike al K.2.1, K.2.2, by omega⟩, hty⟩
  have hS : StaticIs P.U ST "COMPACT_STRINGS" "Z" (.int z) := by
    obtain ⟨cfS, iS, kS, fS, st, cS, t1, t2, t3, t4, t5, t6, t7⟩ := S
    exact StaticIs.there (s := { Z with heap := P.U.heap }) ⟨cfS, iS, kS, fS, st, cS, t1, t2, t3, t4, t5, (fun q => by rw [q] at t6; cases t6), t7⟩ al rfl
  obtain ⟨v, B, X', ⟨⟨hv, E', V', q1, q2, q3, q4, q5, q6, q7, q8, q9, q10, q11⟩, hl, hc, hs⟩, st⟩ := New1.pays x D fV fC b A z (tab_of (moved hZ hw)) hfr hlo m meth c P g ig mk _ X hg hsize hdg hW hn ⟨r1, r2, rfl, hB, F1, F2, hA, hS, hz, l0, l2, hp⟩
  have al' : Z.vm.Alike B.U.vm := hZ.alike.trans X'.warmed.alike
  have hsz : E'.slots.size = D.slots.size := by
    obtain ⟨-, -, -, kB, w1, w2, w3⟩ := q1
    obtain ⟨kB', y1, y2⟩ := al'.2.2 _ _ e3
    rw [q2.2.1] at w1
    cases w1.symm.trans y1
    rw [w3, e5 i3, y2]
  refine ⟨v, B, X', ⟨_, ⟨hv, ?_, ⟨by omega, fun y cy hy hn' => q10 y cy (by simpa using hn') hy, fun y cy hy => ?_⟩, q11, ⟨E', _, q1.1, by rw [q2.2.1]; exact e2, by rw [q2.2.1]; exact e3, by rw [q2.1]; exact obV, fun _ => by rw [hsz]; exact e5 i3⟩,
    ⟨E', cfV, kV, iV, fV, q1.1, gV, stV, by rw [q2.1]; exact knV, by rw [q2.1]; exact obV, by rw [q2.2.1]; exact asV, q3⟩, ⟨E', cfC, kC, iC, fC, q1.1, gC, stC, by rw [q2.1]; exact knV, by rw [q2.1]; exact obV, by rw [q2.2.1]; exact asC, q4⟩,
    ⟨V', ⟨q5.1, State.isArrayOf_alike al'.symm q5.2.1, q5.2.2.1⟩, q6, by rw [← al'.findClass]; exact q7, q8, fun j hj => by have := q9 j hj; rwa [Nat.zero_add] at this⟩, fun O n d w F n1 n2 => ?_⟩, hl, hc, hs⟩, st⟩
  · intro y hy
    simp only [List.mem_cons, List.not_mem_nil, or_false] at hy
    rcases hy with rfl | rfl <;> rfl
  · by_cases q : y = x
    · subst q
      cases hD.symm.trans hy
      exact ⟨E', q1.1, q2.2.1, q2.1, hsz⟩
    · exact ⟨cy, q10 y cy q hy, rfl, rfl, rfl⟩
  · obtain ⟨D3, cf, k, i, f, g1, g2, g3, g4, g5, g6, g7⟩ := F
    cases hD.symm.trans g1
    simp only [RoadKit.slotOf, g2, gV, gC, Option.map_some, Option.getD_some] at n1 n2
    exact ⟨E', cf, k, i, f, q1.1, g2, g3, by rw [q2.1]; exact g4, by rw [q2.1]; exact g5, by rw [q2.2.1]; exact g6, by rw [q2.2.2 f.slot (by simp [n1, n2])]; exact g7⟩
end StrChars.Road
namespace StrChars.Road
open Jvm Sem ClassFile Op Lib Jvm.Stand Jvm.Free Jvm.Free.XT
/-- WHAT COMES BACK, the byte[] as a list of values -/
def QA (Z : State) (x : Addr) (zn : Int32) (cs : List Int32) (h : Heap) (v : Option Value) (h' : Heap) (L : List Loc) : Prop := v = none ∧ (∀ y ∈ L, y.base = x) ∧ RoadKit.Keep h h' [x] ∧ h'.size = h.size + 1 ∧ RoadKit.Exa Z h' x ST ∧ RoadKit.Fld Z h' x ST "value" "[B" (.ref h.size) ∧ RoadKit.Fld Z h' x ST "coder" "B" (.int 0) ∧
  (∃ kb, Z.vm.findClass "[B" = some kb ∧ RoadKit.Arv Z h' h.size kb .byte zn (cs.map fun c => .int (lo8 c)) (.int 0)) ∧
  ∀ (O n d : String) (w : Value), RoadKit.Fld Z h x O n d w → RoadKit.slotOf Z O n d ≠ RoadKit.slotOf Z ST "value" "[B" → RoadKit.slotOf Z O n d ≠ RoadKit.slotOf Z ST "coder" "B" → RoadKit.Fld Z h' x O n d w
/-- **new String(chars) AT A CALL, THE ARRAYS AS LISTS**: the char[] at b holds cs, not empty, no char above 255 -/
theorem backArv {p : Program} {l : Launch} {e : Env} {R : Room} {s : State} {args : Array Value} {below : List Frame} {len W : Nat} {Z : State} {a0 : Array Value} {h : Heap} (hZ : Z.Warmed39 s.vm) (hw : ∀ d ∈ words, d.before a0 Z = true) {kI : Nat} (wi : (Jvm.Cond.instantiable ST kI).before a0 Z = true)
    {x b : Addr} {k : ClassId} {zn z : Int32} {cs : List Int32} {dv v0 c0 : Value} (E : RoadKit.Exa Z h x ST) (V : RoadKit.Fld Z h x ST "value" "[B" v0) (C : RoadKit.Fld Z h x ST "coder" "B" c0) (K : RoadKit.Arv Z h b k .char zn (cs.map Value.int) dv) (S : RoadKit.Sta Z h ST "COMPACT_STRINGS" "Z" (.int z)) (hz : ¬ z = 0)
    (hlen : zn.toNatClampNeg = cs.length) (h0 : 0 < cs.length) (hbig : cs.length ≤ 536870912) (hall : ∀ c ∈ cs, ¬ 255 < c) (hfr : 4 ≤ R.frames) (hlo : W + 65 ≤ R.locals) :
    Back l R p e below s args New1.yN len W (fun P a => a = #[.ref x, .ref b] ∧ P.U.heap = h ∧ P.cells + 1 ≤ R.cells ∧ P.slots + cs.length ≤ R.slots)
      (fun P _ v B => ∃ L, QA Z x zn cs h v B.U.heap L ∧ B.locs = P.locs ++ L ∧ B.cells = P.cells + 1 ∧ B.slots = P.slots + cs.length) := by
  obtain ⟨A, K1, K2, K3, K4, K5, K6⟩ := K
  have e : A.slots.size = cs.length := K3.trans hlen
  have hat : ∀ (i : Nat) (hi : i < cs.length), A.slots[i]? = some (.int cs[i]) := fun i hi => by rw [K5 i (by omega)]; simp [List.getD_eq_getElem?_getD, hi]
  have hcv : ∀ (i : Nat) (hi : i < cs.length), cv A i = cs[i] := fun i hi => by unfold cv; rw [hat i hi]
  have hty : Typed .char A := fun i v hv => by
    have hi : i < A.slots.size := (Array.getElem?_eq_some_iff.mp hv).1
    have q := K5 i hi
    rw [hv] at q
    rw [Option.some.inj q]
    exact K6 i hi
  refine Back.mono (back hZ hw wi E V C K1 hty S hz (by omega) (by omega) (fun i hi => by rw [hcv i (by omega)]; exact hall _ (List.getElem_mem _)) hfr hlo) (fun P a hp => ⟨hp.1, hp.2.1, hp.2.2.1, by rw [e]; exact hp.2.2.2⟩) (fun P a v B hp hq => ?_)
  obtain ⟨L, ⟨q1, q2, q3, q4, q5, q6, q7, ⟨V', v1, v2, v3, v4, v5⟩, q9⟩, hl, hc, hs⟩ := hq
  refine ⟨L, ⟨q1, q2, q3, q4, q5, q6, q7, ⟨V'.cls, v3, V', v1, rfl, by rw [v4, e, hlen], K4, fun i hi => ?_, fun i hi => ?_⟩, q9⟩, hl, hc, by rw [hs, e]⟩
  · have hi' : i < cs.length := by omega
    rw [v5 i (by omega), hcv i hi']; simp [List.getD_eq_getElem?_getD, hi']
  · have hi' : i < cs.length := by omega
    simp only [List.getD_eq_getElem?_getD, List.getElem?_map, List.getElem?_eq_getElem hi', Option.map_some, Option.getD_some]
    exact fits_lo8 _
end StrChars.Road
namespace StrChars.Road
open Jvm Sem ClassFile Op Lib Jvm.Stand Jvm.Free Jvm.Free.XT
/-- WHAT COMES BACK, in the writer's own shape -/
def QV (Z : State) (x : Addr) (N : Int32) (bs : List Int32) (h : Heap) (n0 : Nat) (v : Option Value) (h' : Heap) (L : List Loc) : Prop := v = none ∧ RoadKit.Fr n0 L ∧ RoadKit.Keep h h' [x] ∧ RoadKit.Exa Z h' x ST ∧ RoadKit.Fld Z h' x ST "coder" "B" (.int 0) ∧
  ∃ (t : Addr) (kb : ClassId), n0 ≤ t ∧ h.size ≤ t ∧ ¬ t = x ∧ RoadKit.Fld Z h' x ST "value" "[B" (.ref t) ∧ RoadKit.Arv Z h' t kb .byte N (bs.map Value.int) (.int 0)
/-- **new String(chars) AT A CALL, FOR THE WRITER**: a char[] of n known ints, each 0 to 255 -/
theorem backV {p : Program} {l : Launch} {e : Env} {R : Room} {s : State} {args : Array Value} {below : List Frame} {len W : Nat} {Z : State} {a0 : Array Value} {h : Heap} (hZ : Z.Warmed39 s.vm) (hw : ∀ d ∈ words, d.before a0 Z = true) {kI : Nat} (wi : (Jvm.Cond.instantiable ST kI).before a0 Z = true)
    {x b : Addr} {kC : ClassId} {cs bs : List Int32} {d v0 c0 : Value} {z N : Int32} {n n0 : Nat} (hx0 : n0 ≤ x) (hh0 : n0 ≤ h.size) (E : RoadKit.Exa Z h x ST) (V : RoadKit.Fld Z h x ST "value" "[B" v0) (C : RoadKit.Fld Z h x ST "coder" "B" c0) (K : RoadKit.Arv Z h b kC .char N (cs.map Value.int) d) (S : RoadKit.Sta Z h ST "COMPACT_STRINGS" "Z" (.int z)) (hz : ¬ z = 0)
    (hn : cs.length = n) (hN : N = Int32.ofNat n) (l0 : 0 < n) (l2 : n ≤ 4000) (hp : ∀ c ∈ cs, ¬ c < 0 ∧ ¬ (255 : Int32) < c) (hb : bs = cs.map (fun c => c.toInt8.toInt32)) (hfr : 4 ≤ R.frames) (hlo : W + 65 ≤ R.locals) :
    Back l R p e below s args (⟨"java/lang/String", "<init>", "([C)V"⟩ : MethodName) len W (fun P a => a = #[.ref x, .ref b] ∧ P.U.heap = h ∧ P.cells + 1 ≤ R.cells ∧ P.slots + n ≤ R.slots)
      (fun P _ v B => ∃ L, QV Z x N bs h n0 v B.U.heap L ∧ B.locs = P.locs ++ L ∧ B.cells = P.cells + 1 ∧ B.slots = P.slots + n) := by
  subst hn hN hb
  refine Back.mono (backArv hZ hw wi E V C K S hz (n32 (by omega)) l0 (by omega) (fun c hc => (hp c hc).2) hfr hlo) (fun P a hp => hp) (fun P a v B hp hq => ?_)
  obtain ⟨L, ⟨q1, q2, q3, q4, q5, q6, q7, ⟨kb, v1, v2⟩, q9⟩, hl, hc, hs⟩ := hq
  exact ⟨L, ⟨q1, fun y hy => by rw [q2 y hy]; exact hx0, q3, q5, q7, h.size, kb, hh0, Nat.le_refl _, Nat.ne_of_gt E.lt, q6, by rw [List.map_map]; exact v2⟩, hl, hc, hs⟩
end StrChars.Road
end Jvm.Pilot.@@N@@
namespace Jvm.Pilot.@@N@@
open Jvm Jvm.ClassFile Sem Op Lib Jvm.Free Jvm.Stand Jvm.LawKit Jvm.RoadKit Bundle Jvm.Pilot.@@N@@.Jvm.D
section Own
variable {p : Program} {l : Launch} {e : Env} {R : Room} {s : State} {m : MethodId} {args : Array Value} {below : List Frame} {meth : Method} {c : Code} {T : State} {locs : List Loc} {cells slots : Nat} {Z : State} {h h' h2 : Heap}
theorem own_cR (a : Addr) : (Value.ref a).category = 1 := rfl
theorem own_cI (x : Int32) : (Value.int x).category = 1 := rfl
theorem own_cN : Value.null.category = 1 := rfl
theorem own_cJ (x : Int64) : (Value.long x).category = 2 := rfl
/-- from U the walk comes to its end, where P holds -/
def Ends (tb : Tables) (e : Env) (below : List Frame) (P : Outcome → State → Prop) (U : State) : Prop := ∃ s₂ o, Steps tb e below U s₂ ∧ s₂.status = .running ∧ Ended s₂ below o ∧ P o s₂
theorem Ends.step {tb : Tables} {P : Outcome → State → Prop} {U U' : State} (k : ∀ t, Steps tb e below U' t → Steps tb e below U t) (h : Ends tb e below P U') : Ends tb e below P U := by
  obtain ⟨t, o, a, r⟩ := h; exact ⟨t, o, k t a, r⟩
theorem Ends.go {tb : Tables} {P : Outcome → State → Prop} {U U' : State} (k : Steps tb e below U U') (h : Ends tb e below P U') : Ends tb e below P U := Ends.step (fun _ q => k.trans q) h
theorem own_mono (X : Stand p l e R s m args below meth c T locs cells slots) {cells' slots' : Nat} (h1 : cells ≤ cells') (h2 : slots ≤ slots') : Stand p l e R s m args below meth c T locs cells' slots' := { X with same := X.same.mono h1 h2 }
theorem own_end {Q : Option Value → Heap → List Loc → Prop} {K N : Nat} {v : Option Value} {g : JFrame} (X : Stand p l e R s m args below meth c T locs cells slots) (hlk : meth.locks = false) (hv : meth.sig.returnType = none → v = none)
    (st : ∀ fs : List Frame, (∀ (f : JFrame) (acts : List Action), f.method = m → f.locked = none → f.entered = [] → (doReturn e (T.setTop f) acts v).1 = T.setFrames fs) → Steps p.tables e below (T.setTop g) (T.setFrames fs))
    (eT : T.heap = h) (hQ : Q v h locs) (hk : cells ≤ K) (hn : slots ≤ N) : Ends p.tables e below (fun o U => ∃ v L, o = .returned v ∧ Q v U.heap L ∧ FrameEnd s o U L K N) (T.setTop g) := by
  obtain ⟨fs, hr, hrun, hended, hW, hsame⟩ := X.leave (v := v) hv hlk
  refine ⟨_, _, st fs hr, hrun, hended, v, locs, rfl, ?_, ⟨_, rfl⟩, hW, hsame.mono hk hn⟩
  show Q v T.heap locs
  rw [eT]; exact hQ
theorem own_finV {Q : Option Value → Heap → List Loc → Prop} {K N : Nat} (X : Stand p l e R s m args below meth c T locs cells slots) (hx : p.tables.exec = Jvm.exec) (hlk : meth.locks = false) (hret : meth.sig.returnType = none) {pc : Nat} {Ls : Array Slot} (hd : decode c.code pc = .ok (.return_, 1)) (eT : T.heap = h) (hQ : Q none h locs) (hk : cells ≤ K) (hn : slots ≤ N) :
    Ends p.tables e below (fun o U => ∃ v L, o = .returned v ∧ Q v U.heap L ∧ FrameEnd s o U L K N) (T.setTop (mkF m pc Ls [])) := own_end X hlk (fun _ => rfl) (fun _ hr => X.returnOut hx hret hd hr) eT hQ hk hn
theorem own_finR {Q : Option Value → Heap → List Loc → Prop} {K N : Nat} (X : Stand p l e R s m args below meth c T locs cells slots) (hx : p.tables.exec = Jvm.exec) (hlk : meth.locks = false) {t : FieldType} (hret : meth.sig.returnType = some t) (ht : t.isReference = true) {w : Value} (hw : w.isRef = true) {pc : Nat} {Ls : Array Slot} {rest : List Value} (hd : decode c.code pc = .ok (.areturn, 1)) (eT : T.heap = h) (hQ : Q (some w) h locs) (hk : cells ≤ K) (hn : slots ≤ N) :
    Ends p.tables e below (fun o U => ∃ v L, o = .returned v ∧ Q v U.heap L ∧ FrameEnd s o U L K N) (T.setTop (mkF m pc Ls (w :: rest))) :=
  own_end X hlk (fun q => by rw [hret] at q; cases q) (fun _ hr => retOut X hx hret (by rcases ref_cases hw with rfl | ⟨a, rfl⟩ <;> cases t <;> first | rfl | (exact absurd ht (by decide))) (Or.inr (Or.inr (Or.inr (Or.inr ⟨rfl, ht, hw⟩)))) hd hr) eT hQ hk hn
theorem own_finJ {Q : Option Value → Heap → List Loc → Prop} {K N : Nat} (X : Stand p l e R s m args below meth c T locs cells slots) (hx : p.tables.exec = Jvm.exec) (hlk : meth.locks = false) (hret : meth.sig.returnType = some .long) {w : Int64} {pc : Nat} {Ls : Array Slot} {rest : List Value} (hd : decode c.code pc = .ok (.lreturn, 1)) (eT : T.heap = h) (hQ : Q (some (.long w)) h locs) (hk : cells ≤ K) (hn : slots ≤ N) :
    Ends p.tables e below (fun o U => ∃ v L, o = .returned v ∧ Q v U.heap L ∧ FrameEnd s o U L K N) (T.setTop (mkF m pc Ls (.long w :: rest))) :=
  own_end X hlk (fun q => by rw [hret] at q; cases q) (fun _ hr => retOut X hx hret rfl (Or.inr (Or.inl ⟨rfl, rfl, w, rfl⟩)) hd hr) eT hQ hk hn
theorem own_finI {Q : Option Value → Heap → List Loc → Prop} {K N : Nat} (X : Stand p l e R s m args below meth c T locs cells slots) (hx : p.tables.exec = Jvm.exec) (hlk : meth.locks = false) {t : FieldType} (hret : meth.sig.returnType = some t) (ht : t = .int ∨ t = .boolean ∨ t = .byte ∨ t = .char ∨ t = .short) {w : Int32} (hnr : narrow t (.int w) = .int w) {pc : Nat} {Ls : Array Slot} {rest : List Value} (hd : decode c.code pc = .ok (.ireturn, 1)) (eT : T.heap = h) (hQ : Q (some (.int w)) h locs) (hk : cells ≤ K) (hn : slots ≤ N) :
    Ends p.tables e below (fun o U => ∃ v L, o = .returned v ∧ Q v U.heap L ∧ FrameEnd s o U L K N) (T.setTop (mkF m pc Ls (.int w :: rest))) :=
  own_end X hlk (fun q => by rw [hret] at q; cases q) (fun _ hr => retOut X hx hret hnr (Or.inl ⟨rfl, ht, w, rfl⟩) hd hr) eT hQ hk hn
theorem own_narrow_ref {v : Value} {t : FieldType} (h : v.isRef = true) (ht : t.isReference = true) : narrow t v = v := by
  rcases ref_cases h with rfl | ⟨a, rfl⟩ <;> cases t <;> first | rfl | (exact absurd ht (by decide))
theorem own_fits_ref {v : Value} {t : FieldType} (h : v.isRef = true) (ht : t.isReference = true) : fits t v = true := by
  rcases ref_cases h with rfl | ⟨a, rfl⟩ <;> cases t <;> first | rfl | (exact absurd ht (by decide))
theorem own_narZ {z : Int32} (h : z = (0 : Int32) ∨ z = (1 : Int32)) : narrow .boolean (.int z) = .int z := by rcases h with rfl | rfl <;> rfl
theorem own_and255 (x : Int32) : ¬ nar .char ((x &&& (255 : Int32)).toUInt32.toUInt16.toUInt32.toInt32) < 0 ∧ ¬ (255 : Int32) < nar .char ((x &&& (255 : Int32)).toUInt32.toUInt16.toUInt32.toInt32) := by
  have t : ∀ k : Fin 256, ¬ nar .char ((Int32.ofNat k.val).toUInt32.toUInt16.toUInt32.toInt32) < 0 ∧ ¬ (255 : Int32) < nar .char ((Int32.ofNat k.val).toUInt32.toUInt16.toUInt32.toInt32) := by decide +kernel
  have h : (x &&& 255).toBitVec.toNat < 256 := by
    simp only [Int32.toBitVec_and, BitVec.toNat_and]
    exact Nat.lt_succ_of_le Nat.and_le_right
  have e : (x &&& 255) = Int32.ofNat (x &&& 255).toBitVec.toNat := by
    apply Int32.toBitVec_inj.mp
    show _ = BitVec.ofNat 32 _
    rw [BitVec.ofNat_toNat]; simp
  rw [e]
  exact t ⟨_, h⟩
theorem own_c255 (x : Int32) : ¬ ((x &&& (255 : Int32)).toUInt32.toUInt16.toUInt32.toInt32) < 0 ∧ ¬ (255 : Int32) < ((x &&& (255 : Int32)).toUInt32.toUInt16.toUInt32.toInt32) := by
  have t : ∀ k : Fin 256, ¬ ((Int32.ofNat k.val).toUInt32.toUInt16.toUInt32.toInt32) < 0 ∧ ¬ (255 : Int32) < ((Int32.ofNat k.val).toUInt32.toUInt16.toUInt32.toInt32) := by decide +kernel
  have h : (x &&& 255).toBitVec.toNat < 256 := by
    simp only [Int32.toBitVec_and, BitVec.toNat_and]
    exact Nat.lt_succ_of_le Nat.and_le_right
  have e : (x &&& 255) = Int32.ofNat (x &&& 255).toBitVec.toNat := by
    apply Int32.toBitVec_inj.mp
    show _ = BitVec.ofNat 32 _
    rw [BitVec.ofNat_toNat]; simp
  rw [e]
  exact t ⟨_, h⟩
theorem own_up (cs : List Int32) (h : ∀ c ∈ cs, ¬ c < 0 ∧ ¬ (255 : Int32) < c) : ∀ c ∈ cs, ¬ c < 0 ∧ ¬ (65535 : Int32) < c := fun c hc => ⟨(h c hc).1, fun q => (h c hc).2 (by rw [Int32.lt_iff_toInt_lt] at q ⊢; have e1 : (65535 : Int32).toInt = 65535 := rfl; have e2 : (255 : Int32).toInt = 255 := rfl; omega)⟩
/-- a reference of class C, or null -/
def Nul (Z : State) (h : Heap) (v : Value) (C : String) : Prop := v = .null ∨ ∃ a, v = .ref a ∧ Exa Z h a C
theorem Nul.keep {v : Value} {C : String} {ws : List Addr} (F : Nul Z h v C) (K : Keep h h' ws) : Nul Z h' v C := F.imp id fun ⟨a, e, E⟩ => ⟨a, e, E.keep K⟩
theorem Nul.ext {v : Value} {C : String} (F : Nul Z h v C) (E : Ext h h') : Nul Z h' v C := F.imp id fun ⟨a, e, A⟩ => ⟨a, e, A.ext E⟩
theorem Nul.wr {v w : Value} {C : String} {a : Addr} {sl : Nat} (F : Nul Z h v C) (W : Wr h h' a sl w) : Nul Z h' v C := F.imp id fun ⟨a, e, A⟩ => ⟨a, e, A.wr W⟩
theorem Nul.ref {v : Value} {C : String} (F : Nul Z h v C) : v.isRef = true := by rcases F with rfl | ⟨a, rfl, -⟩ <;> rfl
theorem own_castN {a0 : Array Value} (X : Stand p l e R s m args below meth c T locs cells slots) (hx : p.tables.exec = Jvm.exec) (hZ : Z.Warmed39 s.vm) {own K : String} {index : Nat} (hown : s.vm.findClass own = some m.cls) (w : (Jvm.Cond.classLink own index K).before a0 Z = true) (eT : T.heap = h) {v : Value} (F : Nul Z h v K)
    {g : JFrame} (hg : g.method = m) {rest : List Value} (hs : g.stack = v :: rest) (hd : decode c.code g.pc = .ok (.checkcast index, 3)) : ∃ T', Stand p l e R s m args below meth c T' locs cells slots ∧ T'.heap = h ∧ ∀ target, Steps p.tables e below (T'.setTop { g with pc := g.pc + 3 }) target → Steps p.tables e below (T.setTop g) target := by
  rcases F with rfl | ⟨a, rfl, E⟩
  · exact ⟨T, X, eT, X.checkcastNull hx hg hs hd⟩
  · exact castY X hx hZ hown w eT (Ins.self E) hg hs hd
theorem own_alen (X : Stand p l e R s m args below meth c T locs cells slots) (hx : p.tables.exec = Jvm.exec) (hZ : Z.Warmed39 s.vm) (eT : T.heap = h) {a : Addr} {cl : Cell} {ty : FieldType} (A : Arr Z h a cl ty) {z : Int32} (hz : cl.slots.size.toInt32 = z) {g : JFrame} (hg : g.method = m) {rest : List Value} (hs : g.stack = .ref a :: rest) (hd : decode c.code g.pc = .ok (.arraylength, 1))
    {target : State} (k : Steps p.tables e below (T.setTop { g with pc := g.pc + 1, stack := .int z :: rest }) target) : Steps p.tables e below (T.setTop g) target := by
  subst hz
  exact X.arraylength hx (by rw [eT]; exact A.1) (State.isArrayOf_alike hZ.alike A.2.1) hg hs hd _ k
end Own
section OwnW
variable {p : Program} {l : Launch} {e : Env} {R : Room} {s : State} {m : MethodId} {args : Array Value} {below : List Frame} {meth : Method} {c : Code} {T : State} {locs : List Loc} {cells slots : Nat} {Z : State} {h h0 h1 h2 : Heap} {EL : List (String × Nat)} {vm vm0 vm1 : Vm} {a0 : Array Value}
theorem own_chrE (R : CHr Z EL vm h vm1 h1) (E : Ext h1 h2) : CHr Z EL vm h vm1 h2 := R.trans (CHr.ext E R.1)
theorem own_chrK (R : CHr Z EL vm h vm1 h1) (K : Keep h1 h2 []) : CHr Z EL vm h vm1 h2 := R.trans (CHr.keep K sf0 R.1)
theorem own_chrS {ws : List Addr} (R : CHr Z EL vm h vm1 h1) (K : Keep h1 h2 ws) (hs : ∀ x ∈ ws, Safe Z EL vm1 h1 x) : CHr Z EL vm h vm1 h2 := R.trans (CHr.keep K hs R.1)
theorem own_chrW {a : Addr} {sl : Nat} {v : Value} (R : CHr Z EL vm h vm1 h1) (W : Wr h1 h2 a sl v) (S : Safe Z EL vm1 h1 a) : CHr Z EL vm h vm1 h2 := R.trans (CHr.wr W S R.1)
/-- a String that is still being made is no literal's -/
theorem own_safeBlank {x : Addr} (hal : Z.vm.Alike vm) (E : Exa Z h x "java/lang/String") (F : Fld Z h x "java/lang/String" "value" "[B" .null) : Safe Z EL vm h x := fun B => by
  obtain ⟨cell, k, e1, e2, e3, -, -⟩ := E
  obtain ⟨cell', cf, k', i, f, f1, f2, -, -, -, -, f7⟩ := F
  cases e1.symm.trans f1
  obtain ⟨p, -, u, a, -, q, -, F, rfl | rfl⟩ := B
  · cases (show h[q.sa]? = some q.sC from F.ha).symm.trans e1
    obtain ⟨cS, ⟨⟨-, -, -, ⟨cv, kv, iv, s4, -⟩, -, -, -, s8, -⟩, -, -⟩, -⟩ := F
    obtain ⟨kv', z4⟩ := ff_back (U := Wst Z vm h) hal s4
    cases f2.symm.trans z4
    rw [s8] at f7
    cases f7
  · cases (show h[q.sd]? = some q.SA from F.hd).symm.trans e1
    obtain ⟨cS, -, -, f, -⟩ := F
    have f' : vm.findClass "[B" = some q.SA.cls := f
    rw [hal.findClass] at f'
    obtain ⟨k1, q1, q2⟩ := Vm.findClass_spec f'
    obtain ⟨k2, q3, q4⟩ := Vm.findClass_spec e2
    cases q1.symm.trans q3
    exact absurd (q2.symm.trans q4) (by decide)
theorem own_endW {Q : Option Value → Heap → List Loc → Prop} {K N k0 : Nat} {v : Option Value} {g : JFrame} (X : Stand p l e R (s.setVm vm0) m args below meth c T locs cells slots) (hS : s.Since vm0 k0) (hlk : meth.locks = false) (hh : s.heap = h0) (hEL : EW Z a0 EL) (hk0 : k0 ≤ h.size) (CR : CHr Z EL s.vm h0 vm0 h) (hZ : Z.Warmed39 vm0) (hv : meth.sig.returnType = none → v = none)
    (st : ∀ fs : List Frame, (∀ (f : JFrame) (acts : List Action), f.method = m → f.locked = none → f.entered = [] → (doReturn e (T.setTop f) acts v).1 = T.setFrames fs) → Steps p.tables e below (T.setTop g) (T.setFrames fs))
    (eT : T.heap = h) (hQ : Q v h locs) (hk : cells ≤ K) (hn : slots ≤ N) : Ends p.tables e below (fun o U => ∃ v L, o = .returned v ∧ Q v U.heap L ∧ CHr Z EL s.vm s.heap U.vm U.heap ∧ ReturnedEndW s o U L K N) (T.setTop g) := by
  subst eT hh
  obtain ⟨fs, hr, hrun, hended, h1, h2, h3, h4⟩ := X.leaveW hS hk0 (v := v) hv hlk
  exact ⟨_, _, st fs hr, hrun, hended, v, locs, rfl, hQ, (show CHr Z EL s.vm s.heap T.vm T.heap from CR.trans (CHv.at X hZ hEL CR.1)), h1, h2, h3, h4.mono hk hn⟩
theorem own_finVW {Q : Option Value → Heap → List Loc → Prop} {K N k0 : Nat} (X : Stand p l e R (s.setVm vm0) m args below meth c T locs cells slots) (hS : s.Since vm0 k0) (hx : p.tables.exec = Jvm.exec) (hlk : meth.locks = false) (hh : s.heap = h0) (hEL : EW Z a0 EL) (hk0 : k0 ≤ h.size) (CR : CHr Z EL s.vm h0 vm0 h) (hZ : Z.Warmed39 vm0) (hret : meth.sig.returnType = none) {pc : Nat} {Ls : Array Slot} (hd : decode c.code pc = .ok (.return_, 1)) (eT : T.heap = h) (hQ : Q none h locs) (hk : cells ≤ K) (hn : slots ≤ N) :
    Ends p.tables e below (fun o U => ∃ v L, o = .returned v ∧ Q v U.heap L ∧ CHr Z EL s.vm s.heap U.vm U.heap ∧ ReturnedEndW s o U L K N) (T.setTop (mkF m pc Ls [])) := own_endW X hS hlk hh hEL hk0 CR hZ (fun _ => rfl) (fun _ hr => X.returnOut hx hret hd hr) eT hQ hk hn
theorem own_finRW {Q : Option Value → Heap → List Loc → Prop} {K N k0 : Nat} (X : Stand p l e R (s.setVm vm0) m args below meth c T locs cells slots) (hS : s.Since vm0 k0) (hx : p.tables.exec = Jvm.exec) (hlk : meth.locks = false) (hh : s.heap = h0) (hEL : EW Z a0 EL) (hk0 : k0 ≤ h.size) (CR : CHr Z EL s.vm h0 vm0 h) (hZ : Z.Warmed39 vm0) {t : FieldType} (hret : meth.sig.returnType = some t) (ht : t.isReference = true) {w : Value} (hw : w.isRef = true) {pc : Nat} {Ls : Array Slot} {rest : List Value} (hd : decode c.code pc = .ok (.areturn, 1)) (eT : T.heap = h) (hQ : Q (some w) h locs) (hk : cells ≤ K) (hn : slots ≤ N) :
    Ends p.tables e below (fun o U => ∃ v L, o = .returned v ∧ Q v U.heap L ∧ CHr Z EL s.vm s.heap U.vm U.heap ∧ ReturnedEndW s o U L K N) (T.setTop (mkF m pc Ls (w :: rest))) :=
  own_endW X hS hlk hh hEL hk0 CR hZ (fun q => by rw [hret] at q; cases q) (fun _ hr => retOut X hx hret (own_narrow_ref hw ht) (Or.inr (Or.inr (Or.inr (Or.inr ⟨rfl, ht, hw⟩)))) hd hr) eT hQ hk hn
theorem own_finIW {Q : Option Value → Heap → List Loc → Prop} {K N k0 : Nat} (X : Stand p l e R (s.setVm vm0) m args below meth c T locs cells slots) (hS : s.Since vm0 k0) (hx : p.tables.exec = Jvm.exec) (hlk : meth.locks = false) (hh : s.heap = h0) (hEL : EW Z a0 EL) (hk0 : k0 ≤ h.size) (CR : CHr Z EL s.vm h0 vm0 h) (hZ : Z.Warmed39 vm0) {t : FieldType} (hret : meth.sig.returnType = some t) (ht : t = .int ∨ t = .boolean ∨ t = .byte ∨ t = .char ∨ t = .short) {w : Int32} (hnr : narrow t (.int w) = .int w) {pc : Nat} {Ls : Array Slot} {rest : List Value} (hd : decode c.code pc = .ok (.ireturn, 1)) (eT : T.heap = h) (hQ : Q (some (.int w)) h locs) (hk : cells ≤ K) (hn : slots ≤ N) :
    Ends p.tables e below (fun o U => ∃ v L, o = .returned v ∧ Q v U.heap L ∧ CHr Z EL s.vm s.heap U.vm U.heap ∧ ReturnedEndW s o U L K N) (T.setTop (mkF m pc Ls (.int w :: rest))) :=
  own_endW X hS hlk hh hEL hk0 CR hZ (fun q => by rw [hret] at q; cases q) (fun _ hr => retOut X hx hret hnr (Or.inl ⟨rfl, ht, w, rfl⟩) hd hr) eT hQ hk hn
end OwnW
theorem own_hws {Z : State} {a0 : Array Value} (hw : ∀ d ∈ tables_1, d.before a0 Z = true) : ∀ d ∈ StrChars.Road.words, d.before a0 Z = true := fun d hd => hw d ((by decide +kernel : ∀ d ∈ StrChars.Road.words, d ∈ tables_1) d hd)
theorem own_hEL {Z : State} {a0 : Array Value} (hw : ∀ d ∈ tables_1, d.before a0 Z = true) : EW Z a0 consts_1 := (EW.cons (hw _ (List.mem_of_getElem? (i := 18) rfl)) (by decide +kernel) EW.nil)
theorem own_wS {Z : State} {a0 : Array Value} (hw : ∀ d ∈ tables_1, d.before a0 Z = true) : ∀ d ∈ Bundle.stringAtoms, d.before a0 Z = true := fun d hd => hw d ((by decide +kernel : ∀ d ∈ Bundle.stringAtoms, d ∈ tables_1) d hd)
theorem d_jdk_42_method_149_code_0 : decode jdk_42_method_149_code 0 = .ok (.aload_n 0, 1) := by decide +kernel
theorem d_jdk_42_method_149_code_1 : decode jdk_42_method_149_code 1 = .ok (.invokespecial 1, 3) := by decide +kernel
theorem d_jdk_42_method_149_code_4 : decode jdk_42_method_149_code 4 = .ok (.iload_n 3, 1) := by decide +kernel
theorem d_jdk_42_method_149_code_5 : decode jdk_42_method_149_code 5 = .ok (.ifCond .ne 22, 3) := by decide +kernel
theorem d_jdk_42_method_149_code_8 : decode jdk_42_method_149_code 8 = .ok (.aload_n 0, 1) := by decide +kernel
theorem d_jdk_42_method_149_code_9 : decode jdk_42_method_149_code 9 = .ok (.ldc 7, 2) := by decide +kernel
theorem d_jdk_42_method_149_code_11 : decode jdk_42_method_149_code 11 = .ok (.getfield 9, 3) := by decide +kernel
theorem d_jdk_42_method_149_code_14 : decode jdk_42_method_149_code 14 = .ok (.putfield 9, 3) := by decide +kernel
theorem pf_0 : parseFieldDescriptor "[B" = some (.array .byte) := by decide +kernel
theorem d_jdk_42_method_149_code_17 : decode jdk_42_method_149_code 17 = .ok (.aload_n 0, 1) := by decide +kernel
theorem d_jdk_42_method_149_code_18 : decode jdk_42_method_149_code 18 = .ok (.ldc 7, 2) := by decide +kernel
theorem d_jdk_42_method_149_code_20 : decode jdk_42_method_149_code 20 = .ok (.getfield 15, 3) := by decide +kernel
theorem d_jdk_42_method_149_code_23 : decode jdk_42_method_149_code 23 = .ok (.putfield 15, 3) := by decide +kernel
theorem pf_1 : parseFieldDescriptor "B" = some .byte := by decide +kernel
theorem sn_java_lang_String_coder__value {Z : State} {a0 : Array Value} (hw : ∀ d ∈ tables_1, d.before a0 Z = true) : Jvm.RoadKit.slotOf Z "java/lang/String" "coder" "B" ≠ Jvm.RoadKit.slotOf Z "java/lang/String" "value" "[B" := slot_ne (Or.inr (hw _ (List.mem_of_getElem? (i := 21) rfl))) (Or.inr (hw _ (List.mem_of_getElem? (i := 20) rfl))) (by decide) pf_1 pf_0
theorem d_jdk_42_method_149_code_26 : decode jdk_42_method_149_code 26 = .ok (.return_, 1) := by decide +kernel
theorem sn_java_lang_String_value__coder {Z : State} {a0 : Array Value} (hw : ∀ d ∈ tables_1, d.before a0 Z = true) : Jvm.RoadKit.slotOf Z "java/lang/String" "value" "[B" ≠ Jvm.RoadKit.slotOf Z "java/lang/String" "coder" "B" := slot_ne (Or.inr (hw _ (List.mem_of_getElem? (i := 20) rfl))) (Or.inr (hw _ (List.mem_of_getElem? (i := 21) rfl))) (by decide) pf_0 pf_1
theorem pn_java_lang_String : plainName "java/lang/String" = true := by first | (simp [plainName, overriddenIn]; done) | decide +kernel
theorem d_jdk_42_method_3_code_0 : decode jdk_42_method_3_code 0 = .ok (.aload_n 0, 1) := by decide +kernel
theorem d_jdk_42_method_3_code_1 : decode jdk_42_method_3_code 1 = .ok (.aload_n 1, 1) := by decide +kernel
theorem d_jdk_42_method_3_code_2 : decode jdk_42_method_3_code 2 = .ok (.iconst 0, 1) := by decide +kernel
theorem d_jdk_42_method_3_code_3 : decode jdk_42_method_3_code 3 = .ok (.aload_n 1, 1) := by decide +kernel
theorem d_jdk_42_method_3_code_4 : decode jdk_42_method_3_code 4 = .ok (.arraylength, 1) := by decide +kernel
theorem d_jdk_42_method_3_code_5 : decode jdk_42_method_3_code 5 = .ok (.aconst_null, 1) := by decide +kernel
theorem d_jdk_42_method_3_code_6 : decode jdk_42_method_3_code 6 = .ok (.invokespecial 27, 3) := by decide +kernel
theorem pd_0 : parseMethodDescriptor "([CIILjava/lang/Void;)V" = some ⟨[(.array .char), .int, .int, (.object "java/lang/Void")], none⟩ := by decide +kernel
theorem d_jdk_42_method_3_code_9 : decode jdk_42_method_3_code 9 = .ok (.return_, 1) := by decide +kernel
theorem d_jdk_32_method_2_code_0 : decode jdk_32_method_2_code 0 = .ok (.aload_n 0, 1) := by decide +kernel
theorem d_jdk_32_method_2_code_1 : decode jdk_32_method_2_code 1 = .ok (.invokespecial 7, 3) := by decide +kernel
theorem d_jdk_32_method_2_code_4 : decode jdk_32_method_2_code 4 = .ok (.aload_n 0, 1) := by decide +kernel
theorem d_jdk_32_method_2_code_5 : decode jdk_32_method_2_code 5 = .ok (.aload_n 1, 1) := by decide +kernel
theorem d_jdk_32_method_2_code_6 : decode jdk_32_method_2_code 6 = .ok (.putfield 13, 3) := by decide +kernel
theorem pf_2 : parseFieldDescriptor "Ljava/lang/Object;" = some (.object "java/lang/Object") := by decide +kernel
theorem d_jdk_32_method_2_code_9 : decode jdk_32_method_2_code 9 = .ok (.return_, 1) := by decide +kernel
theorem pn_java_util_Optional : plainName "java/util/Optional" = true := by first | (simp [plainName, overriddenIn]; done) | decide +kernel
theorem d_jdk_32_method_4_code_0 : decode jdk_32_method_4_code 0 = .ok (.aload_n 0, 1) := by decide +kernel
theorem d_jdk_32_method_4_code_1 : decode jdk_32_method_4_code 1 = .ok (.ifnonnull 9, 3) := by decide +kernel
theorem d_jdk_32_method_4_code_4 : decode jdk_32_method_4_code 4 = .ok (.getstatic 1, 3) := by decide +kernel
theorem d_jdk_32_method_4_code_7 : decode jdk_32_method_4_code 7 = .ok (.goto 11, 3) := by decide +kernel
theorem d_jdk_32_method_4_code_18 : decode jdk_32_method_4_code 18 = .ok (.areturn, 1) := by decide +kernel
theorem d_jdk_32_method_4_code_10 : decode jdk_32_method_4_code 10 = .ok (.new 2, 3) := by decide +kernel
theorem d_jdk_32_method_4_code_13 : decode jdk_32_method_4_code 13 = .ok (.dup, 1) := by decide +kernel
theorem d_jdk_32_method_4_code_14 : decode jdk_32_method_4_code 14 = .ok (.aload_n 0, 1) := by decide +kernel
theorem d_jdk_32_method_4_code_15 : decode jdk_32_method_4_code 15 = .ok (.invokespecial 23, 3) := by decide +kernel
theorem pd_1 : parseMethodDescriptor "(Ljava/lang/Object;)V" = some ⟨[(.object "java/lang/Object")], none⟩ := by decide +kernel
theorem d_jdk_32_method_15_code_0 : decode jdk_32_method_15_code 0 = .ok (.aload_n 0, 1) := by decide +kernel
theorem d_jdk_32_method_15_code_1 : decode jdk_32_method_15_code 1 = .ok (.getfield 13, 3) := by decide +kernel
theorem d_jdk_32_method_15_code_4 : decode jdk_32_method_15_code 4 = .ok (.ifnull 10, 3) := by decide +kernel
theorem d_jdk_32_method_15_code_14 : decode jdk_32_method_15_code 14 = .ok (.aload_n 1, 1) := by decide +kernel
theorem d_jdk_32_method_15_code_15 : decode jdk_32_method_15_code 15 = .ok (.areturn, 1) := by decide +kernel
theorem d_jdk_32_method_15_code_7 : decode jdk_32_method_15_code 7 = .ok (.aload_n 0, 1) := by decide +kernel
theorem d_jdk_32_method_15_code_8 : decode jdk_32_method_15_code 8 = .ok (.getfield 13, 3) := by decide +kernel
theorem d_jdk_32_method_15_code_11 : decode jdk_32_method_15_code 11 = .ok (.goto 4, 3) := by decide +kernel
theorem d_method_2_code_0 : decode method_2_code 0 = .ok (.iload_n 0, 1) := by decide +kernel
theorem d_method_2_code_1 : decode method_2_code 1 = .ok (.sipush 255, 3) := by decide +kernel
theorem d_method_2_code_4 : decode method_2_code 4 = .ok (.iand, 1) := by decide +kernel
theorem d_method_2_code_5 : decode method_2_code 5 = .ok (.i2c, 1) := by decide +kernel
theorem d_method_2_code_6 : decode method_2_code 6 = .ok (.istore_n 1, 1) := by decide +kernel
theorem d_method_2_code_7 : decode method_2_code 7 = .ok (.iload_n 0, 1) := by decide +kernel
theorem d_method_2_code_8 : decode method_2_code 8 = .ok (.bipush 8, 2) := by decide +kernel
theorem d_method_2_code_10 : decode method_2_code 10 = .ok (.iushr, 1) := by decide +kernel
theorem d_method_2_code_11 : decode method_2_code 11 = .ok (.sipush 255, 3) := by decide +kernel
theorem d_method_2_code_14 : decode method_2_code 14 = .ok (.iand, 1) := by decide +kernel
theorem d_method_2_code_15 : decode method_2_code 15 = .ok (.i2c, 1) := by decide +kernel
theorem d_method_2_code_16 : decode method_2_code 16 = .ok (.istore_n 2, 1) := by decide +kernel
theorem d_method_2_code_17 : decode method_2_code 17 = .ok (.iload_n 0, 1) := by decide +kernel
theorem d_method_2_code_18 : decode method_2_code 18 = .ok (.bipush 16, 2) := by decide +kernel
theorem d_method_2_code_20 : decode method_2_code 20 = .ok (.iushr, 1) := by decide +kernel
theorem d_method_2_code_21 : decode method_2_code 21 = .ok (.iconst 3, 1) := by decide +kernel
theorem d_method_2_code_22 : decode method_2_code 22 = .ok (.iand, 1) := by decide +kernel
theorem d_method_2_code_23 : decode method_2_code 23 = .ok (.istore_n 3, 1) := by decide +kernel
theorem d_method_2_code_24 : decode method_2_code 24 = .ok (.iload_n 3, 1) := by decide +kernel
theorem d_method_2_code_25 : decode method_2_code 25 = .ok (.ifCond .ne 14, 3) := by decide +kernel
theorem d_method_2_code_28 : decode method_2_code 28 = .ok (.new 7, 3) := by decide +kernel
theorem d_method_2_code_31 : decode method_2_code 31 = .ok (.dup, 1) := by decide +kernel
theorem d_method_2_code_32 : decode method_2_code 32 = .ok (.iconst 0, 1) := by decide +kernel
theorem d_method_2_code_33 : decode method_2_code 33 = .ok (.newarray .char, 2) := by decide +kernel
theorem d_method_2_code_35 : decode method_2_code 35 = .ok (.invokespecial 9, 3) := by decide +kernel
theorem pd_2 : parseMethodDescriptor "([C)V" = some ⟨[(.array .char)], none⟩ := by decide +kernel
theorem d_method_2_code_38 : decode method_2_code 38 = .ok (.areturn, 1) := by decide +kernel
theorem d_method_2_code_39 : decode method_2_code 39 = .ok (.iload_n 3, 1) := by decide +kernel
theorem d_method_2_code_40 : decode method_2_code 40 = .ok (.iconst 1, 1) := by decide +kernel
theorem d_method_2_code_41 : decode method_2_code 41 = .ok (.if_icmp .ne 18, 3) := by decide +kernel
theorem d_method_2_code_44 : decode method_2_code 44 = .ok (.new 7, 3) := by decide +kernel
theorem d_method_2_code_47 : decode method_2_code 47 = .ok (.dup, 1) := by decide +kernel
theorem d_method_2_code_48 : decode method_2_code 48 = .ok (.iconst 1, 1) := by decide +kernel
theorem d_method_2_code_49 : decode method_2_code 49 = .ok (.newarray .char, 2) := by decide +kernel
theorem d_method_2_code_51 : decode method_2_code 51 = .ok (.dup, 1) := by decide +kernel
theorem d_method_2_code_52 : decode method_2_code 52 = .ok (.iconst 0, 1) := by decide +kernel
theorem d_method_2_code_53 : decode method_2_code 53 = .ok (.iload_n 1, 1) := by decide +kernel
theorem d_method_2_code_54 : decode method_2_code 54 = .ok (.castore, 1) := by decide +kernel
theorem d_method_2_code_55 : decode method_2_code 55 = .ok (.invokespecial 9, 3) := by decide +kernel
theorem d_method_2_code_58 : decode method_2_code 58 = .ok (.areturn, 1) := by decide +kernel
theorem d_method_2_code_59 : decode method_2_code 59 = .ok (.new 7, 3) := by decide +kernel
theorem d_method_2_code_62 : decode method_2_code 62 = .ok (.dup, 1) := by decide +kernel
theorem d_method_2_code_63 : decode method_2_code 63 = .ok (.iconst 2, 1) := by decide +kernel
theorem d_method_2_code_64 : decode method_2_code 64 = .ok (.newarray .char, 2) := by decide +kernel
theorem d_method_2_code_66 : decode method_2_code 66 = .ok (.dup, 1) := by decide +kernel
theorem d_method_2_code_67 : decode method_2_code 67 = .ok (.iconst 0, 1) := by decide +kernel
theorem d_method_2_code_68 : decode method_2_code 68 = .ok (.iload_n 1, 1) := by decide +kernel
theorem d_method_2_code_69 : decode method_2_code 69 = .ok (.castore, 1) := by decide +kernel
theorem d_method_2_code_70 : decode method_2_code 70 = .ok (.dup, 1) := by decide +kernel
theorem d_method_2_code_71 : decode method_2_code 71 = .ok (.iconst 1, 1) := by decide +kernel
theorem d_method_2_code_72 : decode method_2_code 72 = .ok (.iload_n 2, 1) := by decide +kernel
theorem d_method_2_code_73 : decode method_2_code 73 = .ok (.castore, 1) := by decide +kernel
theorem d_method_2_code_74 : decode method_2_code 74 = .ok (.invokespecial 9, 3) := by decide +kernel
theorem d_method_2_code_77 : decode method_2_code 77 = .ok (.areturn, 1) := by decide +kernel
theorem pn_com_example_operatory_operatory_fhir_AlternativeOfTokenPinLaw : plainName "com/example/operatory/operatory/fhir/AlternativeOfTokenPinLaw" = true := by first | (simp [plainName, overriddenIn]; done) | decide +kernel
theorem d_prog_5_method_1_code_0 : decode prog_5_method_1_code 0 = .ok (.aload_n 0, 1) := by decide +kernel
theorem d_prog_5_method_1_code_1 : decode prog_5_method_1_code 1 = .ok (.invokespecial 1, 3) := by decide +kernel
theorem d_prog_5_method_1_code_4 : decode prog_5_method_1_code 4 = .ok (.aload_n 0, 1) := by decide +kernel
theorem d_prog_5_method_1_code_5 : decode prog_5_method_1_code 5 = .ok (.aload_n 1, 1) := by decide +kernel
theorem d_prog_5_method_1_code_6 : decode prog_5_method_1_code 6 = .ok (.putfield 7, 3) := by decide +kernel
theorem pf_3 : parseFieldDescriptor "Ljava/lang/String;" = some (.object "java/lang/String") := by decide +kernel
theorem d_prog_5_method_1_code_9 : decode prog_5_method_1_code 9 = .ok (.aload_n 0, 1) := by decide +kernel
theorem d_prog_5_method_1_code_10 : decode prog_5_method_1_code 10 = .ok (.aload_n 2, 1) := by decide +kernel
theorem d_prog_5_method_1_code_11 : decode prog_5_method_1_code 11 = .ok (.putfield 13, 3) := by decide +kernel
theorem pf_4 : parseFieldDescriptor "Lcom/example/operatory/operatory/fhir/SearchValue$Prefix;" = some (.object "com/example/operatory/operatory/fhir/SearchValue$Prefix") := by decide +kernel
theorem sn_com_example_operatory_operatory_fhir_SearchValue_Alternative_prefix__text {Z : State} {a0 : Array Value} (hw : ∀ d ∈ tables_1, d.before a0 Z = true) : Jvm.RoadKit.slotOf Z "com/example/operatory/operatory/fhir/SearchValue$Alternative" "prefix" "Lcom/example/operatory/operatory/fhir/SearchValue$Prefix;" ≠ Jvm.RoadKit.slotOf Z "com/example/operatory/operatory/fhir/SearchValue$Alternative" "text" "Ljava/lang/String;" := slot_ne (Or.inr (hw _ (List.mem_of_getElem? (i := 39) rfl))) (Or.inr (hw _ (List.mem_of_getElem? (i := 37) rfl))) (by decide) pf_4 pf_3
theorem d_prog_5_method_1_code_14 : decode prog_5_method_1_code 14 = .ok (.aload_n 0, 1) := by decide +kernel
theorem d_prog_5_method_1_code_15 : decode prog_5_method_1_code 15 = .ok (.aload_n 3, 1) := by decide +kernel
theorem d_prog_5_method_1_code_16 : decode prog_5_method_1_code 16 = .ok (.putfield 17, 3) := by decide +kernel
theorem pf_5 : parseFieldDescriptor "Ljava/math/BigDecimal;" = some (.object "java/math/BigDecimal") := by decide +kernel
theorem sn_com_example_operatory_operatory_fhir_SearchValue_Alternative_number__text {Z : State} {a0 : Array Value} (hw : ∀ d ∈ tables_1, d.before a0 Z = true) : Jvm.RoadKit.slotOf Z "com/example/operatory/operatory/fhir/SearchValue$Alternative" "number" "Ljava/math/BigDecimal;" ≠ Jvm.RoadKit.slotOf Z "com/example/operatory/operatory/fhir/SearchValue$Alternative" "text" "Ljava/lang/String;" := slot_ne (Or.inr (hw _ (List.mem_of_getElem? (i := 41) rfl))) (Or.inr (hw _ (List.mem_of_getElem? (i := 37) rfl))) (by decide) pf_5 pf_3
theorem sn_com_example_operatory_operatory_fhir_SearchValue_Alternative_number__prefix {Z : State} {a0 : Array Value} (hw : ∀ d ∈ tables_1, d.before a0 Z = true) : Jvm.RoadKit.slotOf Z "com/example/operatory/operatory/fhir/SearchValue$Alternative" "number" "Ljava/math/BigDecimal;" ≠ Jvm.RoadKit.slotOf Z "com/example/operatory/operatory/fhir/SearchValue$Alternative" "prefix" "Lcom/example/operatory/operatory/fhir/SearchValue$Prefix;" := slot_ne (Or.inr (hw _ (List.mem_of_getElem? (i := 41) rfl))) (Or.inr (hw _ (List.mem_of_getElem? (i := 39) rfl))) (by decide) pf_5 pf_4
theorem d_prog_5_method_1_code_19 : decode prog_5_method_1_code 19 = .ok (.aload_n 0, 1) := by decide +kernel
theorem d_prog_5_method_1_code_20 : decode prog_5_method_1_code 20 = .ok (.aload 4, 2) := by decide +kernel
theorem d_prog_5_method_1_code_22 : decode prog_5_method_1_code 22 = .ok (.putfield 21, 3) := by decide +kernel
theorem sn_com_example_operatory_operatory_fhir_SearchValue_Alternative_date__text {Z : State} {a0 : Array Value} (hw : ∀ d ∈ tables_1, d.before a0 Z = true) : Jvm.RoadKit.slotOf Z "com/example/operatory/operatory/fhir/SearchValue$Alternative" "date" "Ljava/lang/String;" ≠ Jvm.RoadKit.slotOf Z "com/example/operatory/operatory/fhir/SearchValue$Alternative" "text" "Ljava/lang/String;" := slot_ne (Or.inr (hw _ (List.mem_of_getElem? (i := 43) rfl))) (Or.inr (hw _ (List.mem_of_getElem? (i := 37) rfl))) (by decide) pf_3 pf_3
theorem sn_com_example_operatory_operatory_fhir_SearchValue_Alternative_date__prefix {Z : State} {a0 : Array Value} (hw : ∀ d ∈ tables_1, d.before a0 Z = true) : Jvm.RoadKit.slotOf Z "com/example/operatory/operatory/fhir/SearchValue$Alternative" "date" "Ljava/lang/String;" ≠ Jvm.RoadKit.slotOf Z "com/example/operatory/operatory/fhir/SearchValue$Alternative" "prefix" "Lcom/example/operatory/operatory/fhir/SearchValue$Prefix;" := slot_ne (Or.inr (hw _ (List.mem_of_getElem? (i := 43) rfl))) (Or.inr (hw _ (List.mem_of_getElem? (i := 39) rfl))) (by decide) pf_3 pf_4
theorem sn_com_example_operatory_operatory_fhir_SearchValue_Alternative_date__number {Z : State} {a0 : Array Value} (hw : ∀ d ∈ tables_1, d.before a0 Z = true) : Jvm.RoadKit.slotOf Z "com/example/operatory/operatory/fhir/SearchValue$Alternative" "date" "Ljava/lang/String;" ≠ Jvm.RoadKit.slotOf Z "com/example/operatory/operatory/fhir/SearchValue$Alternative" "number" "Ljava/math/BigDecimal;" := slot_ne (Or.inr (hw _ (List.mem_of_getElem? (i := 43) rfl))) (Or.inr (hw _ (List.mem_of_getElem? (i := 41) rfl))) (by decide) pf_3 pf_5
theorem d_prog_5_method_1_code_25 : decode prog_5_method_1_code 25 = .ok (.aload_n 0, 1) := by decide +kernel
theorem d_prog_5_method_1_code_26 : decode prog_5_method_1_code 26 = .ok (.aload 5, 2) := by decide +kernel
theorem d_prog_5_method_1_code_28 : decode prog_5_method_1_code 28 = .ok (.putfield 24, 3) := by decide +kernel
theorem pf_6 : parseFieldDescriptor "Lcom/example/operatory/operatory/fhir/SearchValue$Precision;" = some (.object "com/example/operatory/operatory/fhir/SearchValue$Precision") := by decide +kernel
theorem sn_com_example_operatory_operatory_fhir_SearchValue_Alternative_precision__text {Z : State} {a0 : Array Value} (hw : ∀ d ∈ tables_1, d.before a0 Z = true) : Jvm.RoadKit.slotOf Z "com/example/operatory/operatory/fhir/SearchValue$Alternative" "precision" "Lcom/example/operatory/operatory/fhir/SearchValue$Precision;" ≠ Jvm.RoadKit.slotOf Z "com/example/operatory/operatory/fhir/SearchValue$Alternative" "text" "Ljava/lang/String;" := slot_ne (Or.inr (hw _ (List.mem_of_getElem? (i := 45) rfl))) (Or.inr (hw _ (List.mem_of_getElem? (i := 37) rfl))) (by decide) pf_6 pf_3
theorem sn_com_example_operatory_operatory_fhir_SearchValue_Alternative_precision__prefix {Z : State} {a0 : Array Value} (hw : ∀ d ∈ tables_1, d.before a0 Z = true) : Jvm.RoadKit.slotOf Z "com/example/operatory/operatory/fhir/SearchValue$Alternative" "precision" "Lcom/example/operatory/operatory/fhir/SearchValue$Precision;" ≠ Jvm.RoadKit.slotOf Z "com/example/operatory/operatory/fhir/SearchValue$Alternative" "prefix" "Lcom/example/operatory/operatory/fhir/SearchValue$Prefix;" := slot_ne (Or.inr (hw _ (List.mem_of_getElem? (i := 45) rfl))) (Or.inr (hw _ (List.mem_of_getElem? (i := 39) rfl))) (by decide) pf_6 pf_4
theorem sn_com_example_operatory_operatory_fhir_SearchValue_Alternative_precision__number {Z : State} {a0 : Array Value} (hw : ∀ d ∈ tables_1, d.before a0 Z = true) : Jvm.RoadKit.slotOf Z "com/example/operatory/operatory/fhir/SearchValue$Alternative" "precision" "Lcom/example/operatory/operatory/fhir/SearchValue$Precision;" ≠ Jvm.RoadKit.slotOf Z "com/example/operatory/operatory/fhir/SearchValue$Alternative" "number" "Ljava/math/BigDecimal;" := slot_ne (Or.inr (hw _ (List.mem_of_getElem? (i := 45) rfl))) (Or.inr (hw _ (List.mem_of_getElem? (i := 41) rfl))) (by decide) pf_6 pf_5
theorem sn_com_example_operatory_operatory_fhir_SearchValue_Alternative_precision__date {Z : State} {a0 : Array Value} (hw : ∀ d ∈ tables_1, d.before a0 Z = true) : Jvm.RoadKit.slotOf Z "com/example/operatory/operatory/fhir/SearchValue$Alternative" "precision" "Lcom/example/operatory/operatory/fhir/SearchValue$Precision;" ≠ Jvm.RoadKit.slotOf Z "com/example/operatory/operatory/fhir/SearchValue$Alternative" "date" "Ljava/lang/String;" := slot_ne (Or.inr (hw _ (List.mem_of_getElem? (i := 45) rfl))) (Or.inr (hw _ (List.mem_of_getElem? (i := 43) rfl))) (by decide) pf_6 pf_3
theorem d_prog_5_method_1_code_31 : decode prog_5_method_1_code 31 = .ok (.aload_n 0, 1) := by decide +kernel
theorem d_prog_5_method_1_code_32 : decode prog_5_method_1_code 32 = .ok (.aload 6, 2) := by decide +kernel
theorem d_prog_5_method_1_code_34 : decode prog_5_method_1_code 34 = .ok (.putfield 28, 3) := by decide +kernel
theorem sn_com_example_operatory_operatory_fhir_SearchValue_Alternative_system__text {Z : State} {a0 : Array Value} (hw : ∀ d ∈ tables_1, d.before a0 Z = true) : Jvm.RoadKit.slotOf Z "com/example/operatory/operatory/fhir/SearchValue$Alternative" "system" "Ljava/lang/String;" ≠ Jvm.RoadKit.slotOf Z "com/example/operatory/operatory/fhir/SearchValue$Alternative" "text" "Ljava/lang/String;" := slot_ne (Or.inr (hw _ (List.mem_of_getElem? (i := 47) rfl))) (Or.inr (hw _ (List.mem_of_getElem? (i := 37) rfl))) (by decide) pf_3 pf_3
theorem sn_com_example_operatory_operatory_fhir_SearchValue_Alternative_system__prefix {Z : State} {a0 : Array Value} (hw : ∀ d ∈ tables_1, d.before a0 Z = true) : Jvm.RoadKit.slotOf Z "com/example/operatory/operatory/fhir/SearchValue$Alternative" "system" "Ljava/lang/String;" ≠ Jvm.RoadKit.slotOf Z "com/example/operatory/operatory/fhir/SearchValue$Alternative" "prefix" "Lcom/example/operatory/operatory/fhir/SearchValue$Prefix;" := slot_ne (Or.inr (hw _ (List.mem_of_getElem? (i := 47) rfl))) (Or.inr (hw _ (List.mem_of_getElem? (i := 39) rfl))) (by decide) pf_3 pf_4
theorem sn_com_example_operatory_operatory_fhir_SearchValue_Alternative_system__number {Z : State} {a0 : Array Value} (hw : ∀ d ∈ tables_1, d.before a0 Z = true) : Jvm.RoadKit.slotOf Z "com/example/operatory/operatory/fhir/SearchValue$Alternative" "system" "Ljava/lang/String;" ≠ Jvm.RoadKit.slotOf Z "com/example/operatory/operatory/fhir/SearchValue$Alternative" "number" "Ljava/math/BigDecimal;" := slot_ne (Or.inr (hw _ (List.mem_of_getElem? (i := 47) rfl))) (Or.inr (hw _ (List.mem_of_getElem? (i := 41) rfl))) (by decide) pf_3 pf_5
theorem sn_com_example_operatory_operatory_fhir_SearchValue_Alternative_system__date {Z : State} {a0 : Array Value} (hw : ∀ d ∈ tables_1, d.before a0 Z = true) : Jvm.RoadKit.slotOf Z "com/example/operatory/operatory/fhir/SearchValue$Alternative" "system" "Ljava/lang/String;" ≠ Jvm.RoadKit.slotOf Z "com/example/operatory/operatory/fhir/SearchValue$Alternative" "date" "Ljava/lang/String;" := slot_ne (Or.inr (hw _ (List.mem_of_getElem? (i := 47) rfl))) (Or.inr (hw _ (List.mem_of_getElem? (i := 43) rfl))) (by decide) pf_3 pf_3
theorem sn_com_example_operatory_operatory_fhir_SearchValue_Alternative_system__precision {Z : State} {a0 : Array Value} (hw : ∀ d ∈ tables_1, d.before a0 Z = true) : Jvm.RoadKit.slotOf Z "com/example/operatory/operatory/fhir/SearchValue$Alternative" "system" "Ljava/lang/String;" ≠ Jvm.RoadKit.slotOf Z "com/example/operatory/operatory/fhir/SearchValue$Alternative" "precision" "Lcom/example/operatory/operatory/fhir/SearchValue$Precision;" := slot_ne (Or.inr (hw _ (List.mem_of_getElem? (i := 47) rfl))) (Or.inr (hw _ (List.mem_of_getElem? (i := 45) rfl))) (by decide) pf_3 pf_6
theorem d_prog_5_method_1_code_37 : decode prog_5_method_1_code 37 = .ok (.aload_n 0, 1) := by decide +kernel
theorem d_prog_5_method_1_code_38 : decode prog_5_method_1_code 38 = .ok (.iload 7, 2) := by decide +kernel
theorem d_prog_5_method_1_code_40 : decode prog_5_method_1_code 40 = .ok (.putfield 31, 3) := by decide +kernel
theorem pf_7 : parseFieldDescriptor "Z" = some .boolean := by decide +kernel
theorem sn_com_example_operatory_operatory_fhir_SearchValue_Alternative_noSystem__text {Z : State} {a0 : Array Value} (hw : ∀ d ∈ tables_1, d.before a0 Z = true) : Jvm.RoadKit.slotOf Z "com/example/operatory/operatory/fhir/SearchValue$Alternative" "noSystem" "Z" ≠ Jvm.RoadKit.slotOf Z "com/example/operatory/operatory/fhir/SearchValue$Alternative" "text" "Ljava/lang/String;" := slot_ne (Or.inr (hw _ (List.mem_of_getElem? (i := 49) rfl))) (Or.inr (hw _ (List.mem_of_getElem? (i := 37) rfl))) (by decide) pf_7 pf_3
theorem sn_com_example_operatory_operatory_fhir_SearchValue_Alternative_noSystem__prefix {Z : State} {a0 : Array Value} (hw : ∀ d ∈ tables_1, d.before a0 Z = true) : Jvm.RoadKit.slotOf Z "com/example/operatory/operatory/fhir/SearchValue$Alternative" "noSystem" "Z" ≠ Jvm.RoadKit.slotOf Z "com/example/operatory/operatory/fhir/SearchValue$Alternative" "prefix" "Lcom/example/operatory/operatory/fhir/SearchValue$Prefix;" := slot_ne (Or.inr (hw _ (List.mem_of_getElem? (i := 49) rfl))) (Or.inr (hw _ (List.mem_of_getElem? (i := 39) rfl))) (by decide) pf_7 pf_4
theorem sn_com_example_operatory_operatory_fhir_SearchValue_Alternative_noSystem__number {Z : State} {a0 : Array Value} (hw : ∀ d ∈ tables_1, d.before a0 Z = true) : Jvm.RoadKit.slotOf Z "com/example/operatory/operatory/fhir/SearchValue$Alternative" "noSystem" "Z" ≠ Jvm.RoadKit.slotOf Z "com/example/operatory/operatory/fhir/SearchValue$Alternative" "number" "Ljava/math/BigDecimal;" := slot_ne (Or.inr (hw _ (List.mem_of_getElem? (i := 49) rfl))) (Or.inr (hw _ (List.mem_of_getElem? (i := 41) rfl))) (by decide) pf_7 pf_5
theorem sn_com_example_operatory_operatory_fhir_SearchValue_Alternative_noSystem__date {Z : State} {a0 : Array Value} (hw : ∀ d ∈ tables_1, d.before a0 Z = true) : Jvm.RoadKit.slotOf Z "com/example/operatory/operatory/fhir/SearchValue$Alternative" "noSystem" "Z" ≠ Jvm.RoadKit.slotOf Z "com/example/operatory/operatory/fhir/SearchValue$Alternative" "date" "Ljava/lang/String;" := slot_ne (Or.inr (hw _ (List.mem_of_getElem? (i := 49) rfl))) (Or.inr (hw _ (List.mem_of_getElem? (i := 43) rfl))) (by decide) pf_7 pf_3
theorem sn_com_example_operatory_operatory_fhir_SearchValue_Alternative_noSystem__precision {Z : State} {a0 : Array Value} (hw : ∀ d ∈ tables_1, d.before a0 Z = true) : Jvm.RoadKit.slotOf Z "com/example/operatory/operatory/fhir/SearchValue$Alternative" "noSystem" "Z" ≠ Jvm.RoadKit.slotOf Z "com/example/operatory/operatory/fhir/SearchValue$Alternative" "precision" "Lcom/example/operatory/operatory/fhir/SearchValue$Precision;" := slot_ne (Or.inr (hw _ (List.mem_of_getElem? (i := 49) rfl))) (Or.inr (hw _ (List.mem_of_getElem? (i := 45) rfl))) (by decide) pf_7 pf_6
theorem sn_com_example_operatory_operatory_fhir_SearchValue_Alternative_noSystem__system {Z : State} {a0 : Array Value} (hw : ∀ d ∈ tables_1, d.before a0 Z = true) : Jvm.RoadKit.slotOf Z "com/example/operatory/operatory/fhir/SearchValue$Alternative" "noSystem" "Z" ≠ Jvm.RoadKit.slotOf Z "com/example/operatory/operatory/fhir/SearchValue$Alternative" "system" "Ljava/lang/String;" := slot_ne (Or.inr (hw _ (List.mem_of_getElem? (i := 49) rfl))) (Or.inr (hw _ (List.mem_of_getElem? (i := 47) rfl))) (by decide) pf_7 pf_3
theorem d_prog_5_method_1_code_43 : decode prog_5_method_1_code 43 = .ok (.aload_n 0, 1) := by decide +kernel
theorem d_prog_5_method_1_code_44 : decode prog_5_method_1_code 44 = .ok (.aload 8, 2) := by decide +kernel
theorem d_prog_5_method_1_code_46 : decode prog_5_method_1_code 46 = .ok (.putfield 35, 3) := by decide +kernel
theorem sn_com_example_operatory_operatory_fhir_SearchValue_Alternative_code__text {Z : State} {a0 : Array Value} (hw : ∀ d ∈ tables_1, d.before a0 Z = true) : Jvm.RoadKit.slotOf Z "com/example/operatory/operatory/fhir/SearchValue$Alternative" "code" "Ljava/lang/String;" ≠ Jvm.RoadKit.slotOf Z "com/example/operatory/operatory/fhir/SearchValue$Alternative" "text" "Ljava/lang/String;" := slot_ne (Or.inr (hw _ (List.mem_of_getElem? (i := 51) rfl))) (Or.inr (hw _ (List.mem_of_getElem? (i := 37) rfl))) (by decide) pf_3 pf_3
theorem sn_com_example_operatory_operatory_fhir_SearchValue_Alternative_code__prefix {Z : State} {a0 : Array Value} (hw : ∀ d ∈ tables_1, d.before a0 Z = true) : Jvm.RoadKit.slotOf Z "com/example/operatory/operatory/fhir/SearchValue$Alternative" "code" "Ljava/lang/String;" ≠ Jvm.RoadKit.slotOf Z "com/example/operatory/operatory/fhir/SearchValue$Alternative" "prefix" "Lcom/example/operatory/operatory/fhir/SearchValue$Prefix;" := slot_ne (Or.inr (hw _ (List.mem_of_getElem? (i := 51) rfl))) (Or.inr (hw _ (List.mem_of_getElem? (i := 39) rfl))) (by decide) pf_3 pf_4
theorem sn_com_example_operatory_operatory_fhir_SearchValue_Alternative_code__number {Z : State} {a0 : Array Value} (hw : ∀ d ∈ tables_1, d.before a0 Z = true) : Jvm.RoadKit.slotOf Z "com/example/operatory/operatory/fhir/SearchValue$Alternative" "code" "Ljava/lang/String;" ≠ Jvm.RoadKit.slotOf Z "com/example/operatory/operatory/fhir/SearchValue$Alternative" "number" "Ljava/math/BigDecimal;" := slot_ne (Or.inr (hw _ (List.mem_of_getElem? (i := 51) rfl))) (Or.inr (hw _ (List.mem_of_getElem? (i := 41) rfl))) (by decide) pf_3 pf_5
theorem sn_com_example_operatory_operatory_fhir_SearchValue_Alternative_code__date {Z : State} {a0 : Array Value} (hw : ∀ d ∈ tables_1, d.before a0 Z = true) : Jvm.RoadKit.slotOf Z "com/example/operatory/operatory/fhir/SearchValue$Alternative" "code" "Ljava/lang/String;" ≠ Jvm.RoadKit.slotOf Z "com/example/operatory/operatory/fhir/SearchValue$Alternative" "date" "Ljava/lang/String;" := slot_ne (Or.inr (hw _ (List.mem_of_getElem? (i := 51) rfl))) (Or.inr (hw _ (List.mem_of_getElem? (i := 43) rfl))) (by decide) pf_3 pf_3
theorem sn_com_example_operatory_operatory_fhir_SearchValue_Alternative_code__precision {Z : State} {a0 : Array Value} (hw : ∀ d ∈ tables_1, d.before a0 Z = true) : Jvm.RoadKit.slotOf Z "com/example/operatory/operatory/fhir/SearchValue$Alternative" "code" "Ljava/lang/String;" ≠ Jvm.RoadKit.slotOf Z "com/example/operatory/operatory/fhir/SearchValue$Alternative" "precision" "Lcom/example/operatory/operatory/fhir/SearchValue$Precision;" := slot_ne (Or.inr (hw _ (List.mem_of_getElem? (i := 51) rfl))) (Or.inr (hw _ (List.mem_of_getElem? (i := 45) rfl))) (by decide) pf_3 pf_6
theorem sn_com_example_operatory_operatory_fhir_SearchValue_Alternative_code__system {Z : State} {a0 : Array Value} (hw : ∀ d ∈ tables_1, d.before a0 Z = true) : Jvm.RoadKit.slotOf Z "com/example/operatory/operatory/fhir/SearchValue$Alternative" "code" "Ljava/lang/String;" ≠ Jvm.RoadKit.slotOf Z "com/example/operatory/operatory/fhir/SearchValue$Alternative" "system" "Ljava/lang/String;" := slot_ne (Or.inr (hw _ (List.mem_of_getElem? (i := 51) rfl))) (Or.inr (hw _ (List.mem_of_getElem? (i := 47) rfl))) (by decide) pf_3 pf_3
theorem sn_com_example_operatory_operatory_fhir_SearchValue_Alternative_code__noSystem {Z : State} {a0 : Array Value} (hw : ∀ d ∈ tables_1, d.before a0 Z = true) : Jvm.RoadKit.slotOf Z "com/example/operatory/operatory/fhir/SearchValue$Alternative" "code" "Ljava/lang/String;" ≠ Jvm.RoadKit.slotOf Z "com/example/operatory/operatory/fhir/SearchValue$Alternative" "noSystem" "Z" := slot_ne (Or.inr (hw _ (List.mem_of_getElem? (i := 51) rfl))) (Or.inr (hw _ (List.mem_of_getElem? (i := 49) rfl))) (by decide) pf_3 pf_7
theorem d_prog_5_method_1_code_49 : decode prog_5_method_1_code 49 = .ok (.aload_n 0, 1) := by decide +kernel
theorem d_prog_5_method_1_code_50 : decode prog_5_method_1_code 50 = .ok (.aload 9, 2) := by decide +kernel
theorem d_prog_5_method_1_code_52 : decode prog_5_method_1_code 52 = .ok (.putfield 38, 3) := by decide +kernel
theorem sn_com_example_operatory_operatory_fhir_SearchValue_Alternative_value__text {Z : State} {a0 : Array Value} (hw : ∀ d ∈ tables_1, d.before a0 Z = true) : Jvm.RoadKit.slotOf Z "com/example/operatory/operatory/fhir/SearchValue$Alternative" "value" "Ljava/lang/String;" ≠ Jvm.RoadKit.slotOf Z "com/example/operatory/operatory/fhir/SearchValue$Alternative" "text" "Ljava/lang/String;" := slot_ne (Or.inr (hw _ (List.mem_of_getElem? (i := 53) rfl))) (Or.inr (hw _ (List.mem_of_getElem? (i := 37) rfl))) (by decide) pf_3 pf_3
theorem sn_com_example_operatory_operatory_fhir_SearchValue_Alternative_value__prefix {Z : State} {a0 : Array Value} (hw : ∀ d ∈ tables_1, d.before a0 Z = true) : Jvm.RoadKit.slotOf Z "com/example/operatory/operatory/fhir/SearchValue$Alternative" "value" "Ljava/lang/String;" ≠ Jvm.RoadKit.slotOf Z "com/example/operatory/operatory/fhir/SearchValue$Alternative" "prefix" "Lcom/example/operatory/operatory/fhir/SearchValue$Prefix;" := slot_ne (Or.inr (hw _ (List.mem_of_getElem? (i := 53) rfl))) (Or.inr (hw _ (List.mem_of_getElem? (i := 39) rfl))) (by decide) pf_3 pf_4
theorem sn_com_example_operatory_operatory_fhir_SearchValue_Alternative_value__number {Z : State} {a0 : Array Value} (hw : ∀ d ∈ tables_1, d.before a0 Z = true) : Jvm.RoadKit.slotOf Z "com/example/operatory/operatory/fhir/SearchValue$Alternative" "value" "Ljava/lang/String;" ≠ Jvm.RoadKit.slotOf Z "com/example/operatory/operatory/fhir/SearchValue$Alternative" "number" "Ljava/math/BigDecimal;" := slot_ne (Or.inr (hw _ (List.mem_of_getElem? (i := 53) rfl))) (Or.inr (hw _ (List.mem_of_getElem? (i := 41) rfl))) (by decide) pf_3 pf_5
theorem sn_com_example_operatory_operatory_fhir_SearchValue_Alternative_value__date {Z : State} {a0 : Array Value} (hw : ∀ d ∈ tables_1, d.before a0 Z = true) : Jvm.RoadKit.slotOf Z "com/example/operatory/operatory/fhir/SearchValue$Alternative" "value" "Ljava/lang/String;" ≠ Jvm.RoadKit.slotOf Z "com/example/operatory/operatory/fhir/SearchValue$Alternative" "date" "Ljava/lang/String;" := slot_ne (Or.inr (hw _ (List.mem_of_getElem? (i := 53) rfl))) (Or.inr (hw _ (List.mem_of_getElem? (i := 43) rfl))) (by decide) pf_3 pf_3
theorem sn_com_example_operatory_operatory_fhir_SearchValue_Alternative_value__precision {Z : State} {a0 : Array Value} (hw : ∀ d ∈ tables_1, d.before a0 Z = true) : Jvm.RoadKit.slotOf Z "com/example/operatory/operatory/fhir/SearchValue$Alternative" "value" "Ljava/lang/String;" ≠ Jvm.RoadKit.slotOf Z "com/example/operatory/operatory/fhir/SearchValue$Alternative" "precision" "Lcom/example/operatory/operatory/fhir/SearchValue$Precision;" := slot_ne (Or.inr (hw _ (List.mem_of_getElem? (i := 53) rfl))) (Or.inr (hw _ (List.mem_of_getElem? (i := 45) rfl))) (by decide) pf_3 pf_6
theorem sn_com_example_operatory_operatory_fhir_SearchValue_Alternative_value__system {Z : State} {a0 : Array Value} (hw : ∀ d ∈ tables_1, d.before a0 Z = true) : Jvm.RoadKit.slotOf Z "com/example/operatory/operatory/fhir/SearchValue$Alternative" "value" "Ljava/lang/String;" ≠ Jvm.RoadKit.slotOf Z "com/example/operatory/operatory/fhir/SearchValue$Alternative" "system" "Ljava/lang/String;" := slot_ne (Or.inr (hw _ (List.mem_of_getElem? (i := 53) rfl))) (Or.inr (hw _ (List.mem_of_getElem? (i := 47) rfl))) (by decide) pf_3 pf_3
theorem sn_com_example_operatory_operatory_fhir_SearchValue_Alternative_value__noSystem {Z : State} {a0 : Array Value} (hw : ∀ d ∈ tables_1, d.before a0 Z = true) : Jvm.RoadKit.slotOf Z "com/example/operatory/operatory/fhir/SearchValue$Alternative" "value" "Ljava/lang/String;" ≠ Jvm.RoadKit.slotOf Z "com/example/operatory/operatory/fhir/SearchValue$Alternative" "noSystem" "Z" := slot_ne (Or.inr (hw _ (List.mem_of_getElem? (i := 53) rfl))) (Or.inr (hw _ (List.mem_of_getElem? (i := 49) rfl))) (by decide) pf_3 pf_7
theorem sn_com_example_operatory_operatory_fhir_SearchValue_Alternative_value__code {Z : State} {a0 : Array Value} (hw : ∀ d ∈ tables_1, d.before a0 Z = true) : Jvm.RoadKit.slotOf Z "com/example/operatory/operatory/fhir/SearchValue$Alternative" "value" "Ljava/lang/String;" ≠ Jvm.RoadKit.slotOf Z "com/example/operatory/operatory/fhir/SearchValue$Alternative" "code" "Ljava/lang/String;" := slot_ne (Or.inr (hw _ (List.mem_of_getElem? (i := 53) rfl))) (Or.inr (hw _ (List.mem_of_getElem? (i := 51) rfl))) (by decide) pf_3 pf_3
theorem d_prog_5_method_1_code_55 : decode prog_5_method_1_code 55 = .ok (.aload_n 0, 1) := by decide +kernel
theorem d_prog_5_method_1_code_56 : decode prog_5_method_1_code 56 = .ok (.aload 10, 2) := by decide +kernel
theorem d_prog_5_method_1_code_58 : decode prog_5_method_1_code 58 = .ok (.putfield 41, 3) := by decide +kernel
theorem sn_com_example_operatory_operatory_fhir_SearchValue_Alternative_type__text {Z : State} {a0 : Array Value} (hw : ∀ d ∈ tables_1, d.before a0 Z = true) : Jvm.RoadKit.slotOf Z "com/example/operatory/operatory/fhir/SearchValue$Alternative" "type" "Ljava/lang/String;" ≠ Jvm.RoadKit.slotOf Z "com/example/operatory/operatory/fhir/SearchValue$Alternative" "text" "Ljava/lang/String;" := slot_ne (Or.inr (hw _ (List.mem_of_getElem? (i := 55) rfl))) (Or.inr (hw _ (List.mem_of_getElem? (i := 37) rfl))) (by decide) pf_3 pf_3
theorem sn_com_example_operatory_operatory_fhir_SearchValue_Alternative_type__prefix {Z : State} {a0 : Array Value} (hw : ∀ d ∈ tables_1, d.before a0 Z = true) : Jvm.RoadKit.slotOf Z "com/example/operatory/operatory/fhir/SearchValue$Alternative" "type" "Ljava/lang/String;" ≠ Jvm.RoadKit.slotOf Z "com/example/operatory/operatory/fhir/SearchValue$Alternative" "prefix" "Lcom/example/operatory/operatory/fhir/SearchValue$Prefix;" := slot_ne (Or.inr (hw _ (List.mem_of_getElem? (i := 55) rfl))) (Or.inr (hw _ (List.mem_of_getElem? (i := 39) rfl))) (by decide) pf_3 pf_4
theorem sn_com_example_operatory_operatory_fhir_SearchValue_Alternative_type__number {Z : State} {a0 : Array Value} (hw : ∀ d ∈ tables_1, d.before a0 Z = true) : Jvm.RoadKit.slotOf Z "com/example/operatory/operatory/fhir/SearchValue$Alternative" "type" "Ljava/lang/String;" ≠ Jvm.RoadKit.slotOf Z "com/example/operatory/operatory/fhir/SearchValue$Alternative" "number" "Ljava/math/BigDecimal;" := slot_ne (Or.inr (hw _ (List.mem_of_getElem? (i := 55) rfl))) (Or.inr (hw _ (List.mem_of_getElem? (i := 41) rfl))) (by decide) pf_3 pf_5
theorem sn_com_example_operatory_operatory_fhir_SearchValue_Alternative_type__date {Z : State} {a0 : Array Value} (hw : ∀ d ∈ tables_1, d.before a0 Z = true) : Jvm.RoadKit.slotOf Z "com/example/operatory/operatory/fhir/SearchValue$Alternative" "type" "Ljava/lang/String;" ≠ Jvm.RoadKit.slotOf Z "com/example/operatory/operatory/fhir/SearchValue$Alternative" "date" "Ljava/lang/String;" := slot_ne (Or.inr (hw _ (List.mem_of_getElem? (i := 55) rfl))) (Or.inr (hw _ (List.mem_of_getElem? (i := 43) rfl))) (by decide) pf_3 pf_3
theorem sn_com_example_operatory_operatory_fhir_SearchValue_Alternative_type__precision {Z : State} {a0 : Array Value} (hw : ∀ d ∈ tables_1, d.before a0 Z = true) : Jvm.RoadKit.slotOf Z "com/example/operatory/operatory/fhir/SearchValue$Alternative" "type" "Ljava/lang/String;" ≠ Jvm.RoadKit.slotOf Z "com/example/operatory/operatory/fhir/SearchValue$Alternative" "precision" "Lcom/example/operatory/operatory/fhir/SearchValue$Precision;" := slot_ne (Or.inr (hw _ (List.mem_of_getElem? (i := 55) rfl))) (Or.inr (hw _ (List.mem_of_getElem? (i := 45) rfl))) (by decide) pf_3 pf_6
theorem sn_com_example_operatory_operatory_fhir_SearchValue_Alternative_type__system {Z : State} {a0 : Array Value} (hw : ∀ d ∈ tables_1, d.before a0 Z = true) : Jvm.RoadKit.slotOf Z "com/example/operatory/operatory/fhir/SearchValue$Alternative" "type" "Ljava/lang/String;" ≠ Jvm.RoadKit.slotOf Z "com/example/operatory/operatory/fhir/SearchValue$Alternative" "system" "Ljava/lang/String;" := slot_ne (Or.inr (hw _ (List.mem_of_getElem? (i := 55) rfl))) (Or.inr (hw _ (List.mem_of_getElem? (i := 47) rfl))) (by decide) pf_3 pf_3
theorem sn_com_example_operatory_operatory_fhir_SearchValue_Alternative_type__noSystem {Z : State} {a0 : Array Value} (hw : ∀ d ∈ tables_1, d.before a0 Z = true) : Jvm.RoadKit.slotOf Z "com/example/operatory/operatory/fhir/SearchValue$Alternative" "type" "Ljava/lang/String;" ≠ Jvm.RoadKit.slotOf Z "com/example/operatory/operatory/fhir/SearchValue$Alternative" "noSystem" "Z" := slot_ne (Or.inr (hw _ (List.mem_of_getElem? (i := 55) rfl))) (Or.inr (hw _ (List.mem_of_getElem? (i := 49) rfl))) (by decide) pf_3 pf_7
theorem sn_com_example_operatory_operatory_fhir_SearchValue_Alternative_type__code {Z : State} {a0 : Array Value} (hw : ∀ d ∈ tables_1, d.before a0 Z = true) : Jvm.RoadKit.slotOf Z "com/example/operatory/operatory/fhir/SearchValue$Alternative" "type" "Ljava/lang/String;" ≠ Jvm.RoadKit.slotOf Z "com/example/operatory/operatory/fhir/SearchValue$Alternative" "code" "Ljava/lang/String;" := slot_ne (Or.inr (hw _ (List.mem_of_getElem? (i := 55) rfl))) (Or.inr (hw _ (List.mem_of_getElem? (i := 51) rfl))) (by decide) pf_3 pf_3
theorem sn_com_example_operatory_operatory_fhir_SearchValue_Alternative_type__value {Z : State} {a0 : Array Value} (hw : ∀ d ∈ tables_1, d.before a0 Z = true) : Jvm.RoadKit.slotOf Z "com/example/operatory/operatory/fhir/SearchValue$Alternative" "type" "Ljava/lang/String;" ≠ Jvm.RoadKit.slotOf Z "com/example/operatory/operatory/fhir/SearchValue$Alternative" "value" "Ljava/lang/String;" := slot_ne (Or.inr (hw _ (List.mem_of_getElem? (i := 55) rfl))) (Or.inr (hw _ (List.mem_of_getElem? (i := 53) rfl))) (by decide) pf_3 pf_3
theorem d_prog_5_method_1_code_61 : decode prog_5_method_1_code 61 = .ok (.aload_n 0, 1) := by decide +kernel
theorem d_prog_5_method_1_code_62 : decode prog_5_method_1_code 62 = .ok (.aload 11, 2) := by decide +kernel
theorem d_prog_5_method_1_code_64 : decode prog_5_method_1_code 64 = .ok (.putfield 44, 3) := by decide +kernel
theorem sn_com_example_operatory_operatory_fhir_SearchValue_Alternative_id__text {Z : State} {a0 : Array Value} (hw : ∀ d ∈ tables_1, d.before a0 Z = true) : Jvm.RoadKit.slotOf Z "com/example/operatory/operatory/fhir/SearchValue$Alternative" "id" "Ljava/lang/String;" ≠ Jvm.RoadKit.slotOf Z "com/example/operatory/operatory/fhir/SearchValue$Alternative" "text" "Ljava/lang/String;" := slot_ne (Or.inr (hw _ (List.mem_of_getElem? (i := 57) rfl))) (Or.inr (hw _ (List.mem_of_getElem? (i := 37) rfl))) (by decide) pf_3 pf_3
theorem sn_com_example_operatory_operatory_fhir_SearchValue_Alternative_id__prefix {Z : State} {a0 : Array Value} (hw : ∀ d ∈ tables_1, d.before a0 Z = true) : Jvm.RoadKit.slotOf Z "com/example/operatory/operatory/fhir/SearchValue$Alternative" "id" "Ljava/lang/String;" ≠ Jvm.RoadKit.slotOf Z "com/example/operatory/operatory/fhir/SearchValue$Alternative" "prefix" "Lcom/example/operatory/operatory/fhir/SearchValue$Prefix;" := slot_ne (Or.inr (hw _ (List.mem_of_getElem? (i := 57) rfl))) (Or.inr (hw _ (List.mem_of_getElem? (i := 39) rfl))) (by decide) pf_3 pf_4
theorem sn_com_example_operatory_operatory_fhir_SearchValue_Alternative_id__number {Z : State} {a0 : Array Value} (hw : ∀ d ∈ tables_1, d.before a0 Z = true) : Jvm.RoadKit.slotOf Z "com/example/operatory/operatory/fhir/SearchValue$Alternative" "id" "Ljava/lang/String;" ≠ Jvm.RoadKit.slotOf Z "com/example/operatory/operatory/fhir/SearchValue$Alternative" "number" "Ljava/math/BigDecimal;" := slot_ne (Or.inr (hw _ (List.mem_of_getElem? (i := 57) rfl))) (Or.inr (hw _ (List.mem_of_getElem? (i := 41) rfl))) (by decide) pf_3 pf_5
theorem sn_com_example_operatory_operatory_fhir_SearchValue_Alternative_id__date {Z : State} {a0 : Array Value} (hw : ∀ d ∈ tables_1, d.before a0 Z = true) : Jvm.RoadKit.slotOf Z "com/example/operatory/operatory/fhir/SearchValue$Alternative" "id" "Ljava/lang/String;" ≠ Jvm.RoadKit.slotOf Z "com/example/operatory/operatory/fhir/SearchValue$Alternative" "date" "Ljava/lang/String;" := slot_ne (Or.inr (hw _ (List.mem_of_getElem? (i := 57) rfl))) (Or.inr (hw _ (List.mem_of_getElem? (i := 43) rfl))) (by decide) pf_3 pf_3
theorem sn_com_example_operatory_operatory_fhir_SearchValue_Alternative_id__precision {Z : State} {a0 : Array Value} (hw : ∀ d ∈ tables_1, d.before a0 Z = true) : Jvm.RoadKit.slotOf Z "com/example/operatory/operatory/fhir/SearchValue$Alternative" "id" "Ljava/lang/String;" ≠ Jvm.RoadKit.slotOf Z "com/example/operatory/operatory/fhir/SearchValue$Alternative" "precision" "Lcom/example/operatory/operatory/fhir/SearchValue$Precision;" := slot_ne (Or.inr (hw _ (List.mem_of_getElem? (i := 57) rfl))) (Or.inr (hw _ (List.mem_of_getElem? (i := 45) rfl))) (by decide) pf_3 pf_6
theorem sn_com_example_operatory_operatory_fhir_SearchValue_Alternative_id__system {Z : State} {a0 : Array Value} (hw : ∀ d ∈ tables_1, d.before a0 Z = true) : Jvm.RoadKit.slotOf Z "com/example/operatory/operatory/fhir/SearchValue$Alternative" "id" "Ljava/lang/String;" ≠ Jvm.RoadKit.slotOf Z "com/example/operatory/operatory/fhir/SearchValue$Alternative" "system" "Ljava/lang/String;" := slot_ne (Or.inr (hw _ (List.mem_of_getElem? (i := 57) rfl))) (Or.inr (hw _ (List.mem_of_getElem? (i := 47) rfl))) (by decide) pf_3 pf_3
theorem sn_com_example_operatory_operatory_fhir_SearchValue_Alternative_id__noSystem {Z : State} {a0 : Array Value} (hw : ∀ d ∈ tables_1, d.before a0 Z = true) : Jvm.RoadKit.slotOf Z "com/example/operatory/operatory/fhir/SearchValue$Alternative" "id" "Ljava/lang/String;" ≠ Jvm.RoadKit.slotOf Z "com/example/operatory/operatory/fhir/SearchValue$Alternative" "noSystem" "Z" := slot_ne (Or.inr (hw _ (List.mem_of_getElem? (i := 57) rfl))) (Or.inr (hw _ (List.mem_of_getElem? (i := 49) rfl))) (by decide) pf_3 pf_7
theorem sn_com_example_operatory_operatory_fhir_SearchValue_Alternative_id__code {Z : State} {a0 : Array Value} (hw : ∀ d ∈ tables_1, d.before a0 Z = true) : Jvm.RoadKit.slotOf Z "com/example/operatory/operatory/fhir/SearchValue$Alternative" "id" "Ljava/lang/String;" ≠ Jvm.RoadKit.slotOf Z "com/example/operatory/operatory/fhir/SearchValue$Alternative" "code" "Ljava/lang/String;" := slot_ne (Or.inr (hw _ (List.mem_of_getElem? (i := 57) rfl))) (Or.inr (hw _ (List.mem_of_getElem? (i := 51) rfl))) (by decide) pf_3 pf_3
theorem sn_com_example_operatory_operatory_fhir_SearchValue_Alternative_id__value {Z : State} {a0 : Array Value} (hw : ∀ d ∈ tables_1, d.before a0 Z = true) : Jvm.RoadKit.slotOf Z "com/example/operatory/operatory/fhir/SearchValue$Alternative" "id" "Ljava/lang/String;" ≠ Jvm.RoadKit.slotOf Z "com/example/operatory/operatory/fhir/SearchValue$Alternative" "value" "Ljava/lang/String;" := slot_ne (Or.inr (hw _ (List.mem_of_getElem? (i := 57) rfl))) (Or.inr (hw _ (List.mem_of_getElem? (i := 53) rfl))) (by decide) pf_3 pf_3
theorem sn_com_example_operatory_operatory_fhir_SearchValue_Alternative_id__type {Z : State} {a0 : Array Value} (hw : ∀ d ∈ tables_1, d.before a0 Z = true) : Jvm.RoadKit.slotOf Z "com/example/operatory/operatory/fhir/SearchValue$Alternative" "id" "Ljava/lang/String;" ≠ Jvm.RoadKit.slotOf Z "com/example/operatory/operatory/fhir/SearchValue$Alternative" "type" "Ljava/lang/String;" := slot_ne (Or.inr (hw _ (List.mem_of_getElem? (i := 57) rfl))) (Or.inr (hw _ (List.mem_of_getElem? (i := 55) rfl))) (by decide) pf_3 pf_3
theorem d_prog_5_method_1_code_67 : decode prog_5_method_1_code 67 = .ok (.aload_n 0, 1) := by decide +kernel
theorem d_prog_5_method_1_code_68 : decode prog_5_method_1_code 68 = .ok (.aload 12, 2) := by decide +kernel
theorem d_prog_5_method_1_code_70 : decode prog_5_method_1_code 70 = .ok (.putfield 47, 3) := by decide +kernel
theorem sn_com_example_operatory_operatory_fhir_SearchValue_Alternative_url__text {Z : State} {a0 : Array Value} (hw : ∀ d ∈ tables_1, d.before a0 Z = true) : Jvm.RoadKit.slotOf Z "com/example/operatory/operatory/fhir/SearchValue$Alternative" "url" "Ljava/lang/String;" ≠ Jvm.RoadKit.slotOf Z "com/example/operatory/operatory/fhir/SearchValue$Alternative" "text" "Ljava/lang/String;" := slot_ne (Or.inr (hw _ (List.mem_of_getElem? (i := 59) rfl))) (Or.inr (hw _ (List.mem_of_getElem? (i := 37) rfl))) (by decide) pf_3 pf_3
theorem sn_com_example_operatory_operatory_fhir_SearchValue_Alternative_url__prefix {Z : State} {a0 : Array Value} (hw : ∀ d ∈ tables_1, d.before a0 Z = true) : Jvm.RoadKit.slotOf Z "com/example/operatory/operatory/fhir/SearchValue$Alternative" "url" "Ljava/lang/String;" ≠ Jvm.RoadKit.slotOf Z "com/example/operatory/operatory/fhir/SearchValue$Alternative" "prefix" "Lcom/example/operatory/operatory/fhir/SearchValue$Prefix;" := slot_ne (Or.inr (hw _ (List.mem_of_getElem? (i := 59) rfl))) (Or.inr (hw _ (List.mem_of_getElem? (i := 39) rfl))) (by decide) pf_3 pf_4
theorem sn_com_example_operatory_operatory_fhir_SearchValue_Alternative_url__number {Z : State} {a0 : Array Value} (hw : ∀ d ∈ tables_1, d.before a0 Z = true) : Jvm.RoadKit.slotOf Z "com/example/operatory/operatory/fhir/SearchValue$Alternative" "url" "Ljava/lang/String;" ≠ Jvm.RoadKit.slotOf Z "com/example/operatory/operatory/fhir/SearchValue$Alternative" "number" "Ljava/math/BigDecimal;" := slot_ne (Or.inr (hw _ (List.mem_of_getElem? (i := 59) rfl))) (Or.inr (hw _ (List.mem_of_getElem? (i := 41) rfl))) (by decide) pf_3 pf_5
theorem sn_com_example_operatory_operatory_fhir_SearchValue_Alternative_url__date {Z : State} {a0 : Array Value} (hw : ∀ d ∈ tables_1, d.before a0 Z = true) : Jvm.RoadKit.slotOf Z "com/example/operatory/operatory/fhir/SearchValue$Alternative" "url" "Ljava/lang/String;" ≠ Jvm.RoadKit.slotOf Z "com/example/operatory/operatory/fhir/SearchValue$Alternative" "date" "Ljava/lang/String;" := slot_ne (Or.inr (hw _ (List.mem_of_getElem? (i := 59) rfl))) (Or.inr (hw _ (List.mem_of_getElem? (i := 43) rfl))) (by decide) pf_3 pf_3
theorem sn_com_example_operatory_operatory_fhir_SearchValue_Alternative_url__precision {Z : State} {a0 : Array Value} (hw : ∀ d ∈ tables_1, d.before a0 Z = true) : Jvm.RoadKit.slotOf Z "com/example/operatory/operatory/fhir/SearchValue$Alternative" "url" "Ljava/lang/String;" ≠ Jvm.RoadKit.slotOf Z "com/example/operatory/operatory/fhir/SearchValue$Alternative" "precision" "Lcom/example/operatory/operatory/fhir/SearchValue$Precision;" := slot_ne (Or.inr (hw _ (List.mem_of_getElem? (i := 59) rfl))) (Or.inr (hw _ (List.mem_of_getElem? (i := 45) rfl))) (by decide) pf_3 pf_6
theorem sn_com_example_operatory_operatory_fhir_SearchValue_Alternative_url__system {Z : State} {a0 : Array Value} (hw : ∀ d ∈ tables_1, d.before a0 Z = true) : Jvm.RoadKit.slotOf Z "com/example/operatory/operatory/fhir/SearchValue$Alternative" "url" "Ljava/lang/String;" ≠ Jvm.RoadKit.slotOf Z "com/example/operatory/operatory/fhir/SearchValue$Alternative" "system" "Ljava/lang/String;" := slot_ne (Or.inr (hw _ (List.mem_of_getElem? (i := 59) rfl))) (Or.inr (hw _ (List.mem_of_getElem? (i := 47) rfl))) (by decide) pf_3 pf_3
theorem sn_com_example_operatory_operatory_fhir_SearchValue_Alternative_url__noSystem {Z : State} {a0 : Array Value} (hw : ∀ d ∈ tables_1, d.before a0 Z = true) : Jvm.RoadKit.slotOf Z "com/example/operatory/operatory/fhir/SearchValue$Alternative" "url" "Ljava/lang/String;" ≠ Jvm.RoadKit.slotOf Z "com/example/operatory/operatory/fhir/SearchValue$Alternative" "noSystem" "Z" := slot_ne (Or.inr (hw _ (List.mem_of_getElem? (i := 59) rfl))) (Or.inr (hw _ (List.mem_of_getElem? (i := 49) rfl))) (by decide) pf_3 pf_7
theorem sn_com_example_operatory_operatory_fhir_SearchValue_Alternative_url__code {Z : State} {a0 : Array Value} (hw : ∀ d ∈ tables_1, d.before a0 Z = true) : Jvm.RoadKit.slotOf Z "com/example/operatory/operatory/fhir/SearchValue$Alternative" "url" "Ljava/lang/String;" ≠ Jvm.RoadKit.slotOf Z "com/example/operatory/operatory/fhir/SearchValue$Alternative" "code" "Ljava/lang/String;" := slot_ne (Or.inr (hw _ (List.mem_of_getElem? (i := 59) rfl))) (Or.inr (hw _ (List.mem_of_getElem? (i := 51) rfl))) (by decide) pf_3 pf_3
theorem sn_com_example_operatory_operatory_fhir_SearchValue_Alternative_url__value {Z : State} {a0 : Array Value} (hw : ∀ d ∈ tables_1, d.before a0 Z = true) : Jvm.RoadKit.slotOf Z "com/example/operatory/operatory/fhir/SearchValue$Alternative" "url" "Ljava/lang/String;" ≠ Jvm.RoadKit.slotOf Z "com/example/operatory/operatory/fhir/SearchValue$Alternative" "value" "Ljava/lang/String;" := slot_ne (Or.inr (hw _ (List.mem_of_getElem? (i := 59) rfl))) (Or.inr (hw _ (List.mem_of_getElem? (i := 53) rfl))) (by decide) pf_3 pf_3
theorem sn_com_example_operatory_operatory_fhir_SearchValue_Alternative_url__type {Z : State} {a0 : Array Value} (hw : ∀ d ∈ tables_1, d.before a0 Z = true) : Jvm.RoadKit.slotOf Z "com/example/operatory/operatory/fhir/SearchValue$Alternative" "url" "Ljava/lang/String;" ≠ Jvm.RoadKit.slotOf Z "com/example/operatory/operatory/fhir/SearchValue$Alternative" "type" "Ljava/lang/String;" := slot_ne (Or.inr (hw _ (List.mem_of_getElem? (i := 59) rfl))) (Or.inr (hw _ (List.mem_of_getElem? (i := 55) rfl))) (by decide) pf_3 pf_3
theorem sn_com_example_operatory_operatory_fhir_SearchValue_Alternative_url__id {Z : State} {a0 : Array Value} (hw : ∀ d ∈ tables_1, d.before a0 Z = true) : Jvm.RoadKit.slotOf Z "com/example/operatory/operatory/fhir/SearchValue$Alternative" "url" "Ljava/lang/String;" ≠ Jvm.RoadKit.slotOf Z "com/example/operatory/operatory/fhir/SearchValue$Alternative" "id" "Ljava/lang/String;" := slot_ne (Or.inr (hw _ (List.mem_of_getElem? (i := 59) rfl))) (Or.inr (hw _ (List.mem_of_getElem? (i := 57) rfl))) (by decide) pf_3 pf_3
theorem d_prog_5_method_1_code_73 : decode prog_5_method_1_code 73 = .ok (.aload_n 0, 1) := by decide +kernel
theorem d_prog_5_method_1_code_74 : decode prog_5_method_1_code 74 = .ok (.aload 13, 2) := by decide +kernel
theorem d_prog_5_method_1_code_76 : decode prog_5_method_1_code 76 = .ok (.putfield 50, 3) := by decide +kernel
theorem pf_8 : parseFieldDescriptor "Ljava/lang/Boolean;" = some (.object "java/lang/Boolean") := by decide +kernel
theorem sn_com_example_operatory_operatory_fhir_SearchValue_Alternative_missing__text {Z : State} {a0 : Array Value} (hw : ∀ d ∈ tables_1, d.before a0 Z = true) : Jvm.RoadKit.slotOf Z "com/example/operatory/operatory/fhir/SearchValue$Alternative" "missing" "Ljava/lang/Boolean;" ≠ Jvm.RoadKit.slotOf Z "com/example/operatory/operatory/fhir/SearchValue$Alternative" "text" "Ljava/lang/String;" := slot_ne (Or.inr (hw _ (List.mem_of_getElem? (i := 61) rfl))) (Or.inr (hw _ (List.mem_of_getElem? (i := 37) rfl))) (by decide) pf_8 pf_3
theorem sn_com_example_operatory_operatory_fhir_SearchValue_Alternative_missing__prefix {Z : State} {a0 : Array Value} (hw : ∀ d ∈ tables_1, d.before a0 Z = true) : Jvm.RoadKit.slotOf Z "com/example/operatory/operatory/fhir/SearchValue$Alternative" "missing" "Ljava/lang/Boolean;" ≠ Jvm.RoadKit.slotOf Z "com/example/operatory/operatory/fhir/SearchValue$Alternative" "prefix" "Lcom/example/operatory/operatory/fhir/SearchValue$Prefix;" := slot_ne (Or.inr (hw _ (List.mem_of_getElem? (i := 61) rfl))) (Or.inr (hw _ (List.mem_of_getElem? (i := 39) rfl))) (by decide) pf_8 pf_4
theorem sn_com_example_operatory_operatory_fhir_SearchValue_Alternative_missing__number {Z : State} {a0 : Array Value} (hw : ∀ d ∈ tables_1, d.before a0 Z = true) : Jvm.RoadKit.slotOf Z "com/example/operatory/operatory/fhir/SearchValue$Alternative" "missing" "Ljava/lang/Boolean;" ≠ Jvm.RoadKit.slotOf Z "com/example/operatory/operatory/fhir/SearchValue$Alternative" "number" "Ljava/math/BigDecimal;" := slot_ne (Or.inr (hw _ (List.mem_of_getElem? (i := 61) rfl))) (Or.inr (hw _ (List.mem_of_getElem? (i := 41) rfl))) (by decide) pf_8 pf_5
theorem sn_com_example_operatory_operatory_fhir_SearchValue_Alternative_missing__date {Z : State} {a0 : Array Value} (hw : ∀ d ∈ tables_1, d.before a0 Z = true) : Jvm.RoadKit.slotOf Z "com/example/operatory/operatory/fhir/SearchValue$Alternative" "missing" "Ljava/lang/Boolean;" ≠ Jvm.RoadKit.slotOf Z "com/example/operatory/operatory/fhir/SearchValue$Alternative" "date" "Ljava/lang/String;" := slot_ne (Or.inr (hw _ (List.mem_of_getElem? (i := 61) rfl))) (Or.inr (hw _ (List.mem_of_getElem? (i := 43) rfl))) (by decide) pf_8 pf_3
theorem sn_com_example_operatory_operatory_fhir_SearchValue_Alternative_missing__precision {Z : State} {a0 : Array Value} (hw : ∀ d ∈ tables_1, d.before a0 Z = true) : Jvm.RoadKit.slotOf Z "com/example/operatory/operatory/fhir/SearchValue$Alternative" "missing" "Ljava/lang/Boolean;" ≠ Jvm.RoadKit.slotOf Z "com/example/operatory/operatory/fhir/SearchValue$Alternative" "precision" "Lcom/example/operatory/operatory/fhir/SearchValue$Precision;" := slot_ne (Or.inr (hw _ (List.mem_of_getElem? (i := 61) rfl))) (Or.inr (hw _ (List.mem_of_getElem? (i := 45) rfl))) (by decide) pf_8 pf_6
theorem sn_com_example_operatory_operatory_fhir_SearchValue_Alternative_missing__system {Z : State} {a0 : Array Value} (hw : ∀ d ∈ tables_1, d.before a0 Z = true) : Jvm.RoadKit.slotOf Z "com/example/operatory/operatory/fhir/SearchValue$Alternative" "missing" "Ljava/lang/Boolean;" ≠ Jvm.RoadKit.slotOf Z "com/example/operatory/operatory/fhir/SearchValue$Alternative" "system" "Ljava/lang/String;" := slot_ne (Or.inr (hw _ (List.mem_of_getElem? (i := 61) rfl))) (Or.inr (hw _ (List.mem_of_getElem? (i := 47) rfl))) (by decide) pf_8 pf_3
theorem sn_com_example_operatory_operatory_fhir_SearchValue_Alternative_missing__noSystem {Z : State} {a0 : Array Value} (hw : ∀ d ∈ tables_1, d.before a0 Z = true) : Jvm.RoadKit.slotOf Z "com/example/operatory/operatory/fhir/SearchValue$Alternative" "missing" "Ljava/lang/Boolean;" ≠ Jvm.RoadKit.slotOf Z "com/example/operatory/operatory/fhir/SearchValue$Alternative" "noSystem" "Z" := slot_ne (Or.inr (hw _ (List.mem_of_getElem? (i := 61) rfl))) (Or.inr (hw _ (List.mem_of_getElem? (i := 49) rfl))) (by decide) pf_8 pf_7
theorem sn_com_example_operatory_operatory_fhir_SearchValue_Alternative_missing__code {Z : State} {a0 : Array Value} (hw : ∀ d ∈ tables_1, d.before a0 Z = true) : Jvm.RoadKit.slotOf Z "com/example/operatory/operatory/fhir/SearchValue$Alternative" "missing" "Ljava/lang/Boolean;" ≠ Jvm.RoadKit.slotOf Z "com/example/operatory/operatory/fhir/SearchValue$Alternative" "code" "Ljava/lang/String;" := slot_ne (Or.inr (hw _ (List.mem_of_getElem? (i := 61) rfl))) (Or.inr (hw _ (List.mem_of_getElem? (i := 51) rfl))) (by decide) pf_8 pf_3
theorem sn_com_example_operatory_operatory_fhir_SearchValue_Alternative_missing__value {Z : State} {a0 : Array Value} (hw : ∀ d ∈ tables_1, d.before a0 Z = true) : Jvm.RoadKit.slotOf Z "com/example/operatory/operatory/fhir/SearchValue$Alternative" "missing" "Ljava/lang/Boolean;" ≠ Jvm.RoadKit.slotOf Z "com/example/operatory/operatory/fhir/SearchValue$Alternative" "value" "Ljava/lang/String;" := slot_ne (Or.inr (hw _ (List.mem_of_getElem? (i := 61) rfl))) (Or.inr (hw _ (List.mem_of_getElem? (i := 53) rfl))) (by decide) pf_8 pf_3
theorem sn_com_example_operatory_operatory_fhir_SearchValue_Alternative_missing__type {Z : State} {a0 : Array Value} (hw : ∀ d ∈ tables_1, d.before a0 Z = true) : Jvm.RoadKit.slotOf Z "com/example/operatory/operatory/fhir/SearchValue$Alternative" "missing" "Ljava/lang/Boolean;" ≠ Jvm.RoadKit.slotOf Z "com/example/operatory/operatory/fhir/SearchValue$Alternative" "type" "Ljava/lang/String;" := slot_ne (Or.inr (hw _ (List.mem_of_getElem? (i := 61) rfl))) (Or.inr (hw _ (List.mem_of_getElem? (i := 55) rfl))) (by decide) pf_8 pf_3
theorem sn_com_example_operatory_operatory_fhir_SearchValue_Alternative_missing__id {Z : State} {a0 : Array Value} (hw : ∀ d ∈ tables_1, d.before a0 Z = true) : Jvm.RoadKit.slotOf Z "com/example/operatory/operatory/fhir/SearchValue$Alternative" "missing" "Ljava/lang/Boolean;" ≠ Jvm.RoadKit.slotOf Z "com/example/operatory/operatory/fhir/SearchValue$Alternative" "id" "Ljava/lang/String;" := slot_ne (Or.inr (hw _ (List.mem_of_getElem? (i := 61) rfl))) (Or.inr (hw _ (List.mem_of_getElem? (i := 57) rfl))) (by decide) pf_8 pf_3
theorem sn_com_example_operatory_operatory_fhir_SearchValue_Alternative_missing__url {Z : State} {a0 : Array Value} (hw : ∀ d ∈ tables_1, d.before a0 Z = true) : Jvm.RoadKit.slotOf Z "com/example/operatory/operatory/fhir/SearchValue$Alternative" "missing" "Ljava/lang/Boolean;" ≠ Jvm.RoadKit.slotOf Z "com/example/operatory/operatory/fhir/SearchValue$Alternative" "url" "Ljava/lang/String;" := slot_ne (Or.inr (hw _ (List.mem_of_getElem? (i := 61) rfl))) (Or.inr (hw _ (List.mem_of_getElem? (i := 59) rfl))) (by decide) pf_8 pf_3
theorem d_prog_5_method_1_code_79 : decode prog_5_method_1_code 79 = .ok (.return_, 1) := by decide +kernel
theorem sn_com_example_operatory_operatory_fhir_SearchValue_Alternative_text__prefix {Z : State} {a0 : Array Value} (hw : ∀ d ∈ tables_1, d.before a0 Z = true) : Jvm.RoadKit.slotOf Z "com/example/operatory/operatory/fhir/SearchValue$Alternative" "text" "Ljava/lang/String;" ≠ Jvm.RoadKit.slotOf Z "com/example/operatory/operatory/fhir/SearchValue$Alternative" "prefix" "Lcom/example/operatory/operatory/fhir/SearchValue$Prefix;" := slot_ne (Or.inr (hw _ (List.mem_of_getElem? (i := 37) rfl))) (Or.inr (hw _ (List.mem_of_getElem? (i := 39) rfl))) (by decide) pf_3 pf_4
theorem sn_com_example_operatory_operatory_fhir_SearchValue_Alternative_text__number {Z : State} {a0 : Array Value} (hw : ∀ d ∈ tables_1, d.before a0 Z = true) : Jvm.RoadKit.slotOf Z "com/example/operatory/operatory/fhir/SearchValue$Alternative" "text" "Ljava/lang/String;" ≠ Jvm.RoadKit.slotOf Z "com/example/operatory/operatory/fhir/SearchValue$Alternative" "number" "Ljava/math/BigDecimal;" := slot_ne (Or.inr (hw _ (List.mem_of_getElem? (i := 37) rfl))) (Or.inr (hw _ (List.mem_of_getElem? (i := 41) rfl))) (by decide) pf_3 pf_5
theorem sn_com_example_operatory_operatory_fhir_SearchValue_Alternative_text__date {Z : State} {a0 : Array Value} (hw : ∀ d ∈ tables_1, d.before a0 Z = true) : Jvm.RoadKit.slotOf Z "com/example/operatory/operatory/fhir/SearchValue$Alternative" "text" "Ljava/lang/String;" ≠ Jvm.RoadKit.slotOf Z "com/example/operatory/operatory/fhir/SearchValue$Alternative" "date" "Ljava/lang/String;" := slot_ne (Or.inr (hw _ (List.mem_of_getElem? (i := 37) rfl))) (Or.inr (hw _ (List.mem_of_getElem? (i := 43) rfl))) (by decide) pf_3 pf_3
theorem sn_com_example_operatory_operatory_fhir_SearchValue_Alternative_text__precision {Z : State} {a0 : Array Value} (hw : ∀ d ∈ tables_1, d.before a0 Z = true) : Jvm.RoadKit.slotOf Z "com/example/operatory/operatory/fhir/SearchValue$Alternative" "text" "Ljava/lang/String;" ≠ Jvm.RoadKit.slotOf Z "com/example/operatory/operatory/fhir/SearchValue$Alternative" "precision" "Lcom/example/operatory/operatory/fhir/SearchValue$Precision;" := slot_ne (Or.inr (hw _ (List.mem_of_getElem? (i := 37) rfl))) (Or.inr (hw _ (List.mem_of_getElem? (i := 45) rfl))) (by decide) pf_3 pf_6
theorem sn_com_example_operatory_operatory_fhir_SearchValue_Alternative_text__system {Z : State} {a0 : Array Value} (hw : ∀ d ∈ tables_1, d.before a0 Z = true) : Jvm.RoadKit.slotOf Z "com/example/operatory/operatory/fhir/SearchValue$Alternative" "text" "Ljava/lang/String;" ≠ Jvm.RoadKit.slotOf Z "com/example/operatory/operatory/fhir/SearchValue$Alternative" "system" "Ljava/lang/String;" := slot_ne (Or.inr (hw _ (List.mem_of_getElem? (i := 37) rfl))) (Or.inr (hw _ (List.mem_of_getElem? (i := 47) rfl))) (by decide) pf_3 pf_3
theorem sn_com_example_operatory_operatory_fhir_SearchValue_Alternative_text__noSystem {Z : State} {a0 : Array Value} (hw : ∀ d ∈ tables_1, d.before a0 Z = true) : Jvm.RoadKit.slotOf Z "com/example/operatory/operatory/fhir/SearchValue$Alternative" "text" "Ljava/lang/String;" ≠ Jvm.RoadKit.slotOf Z "com/example/operatory/operatory/fhir/SearchValue$Alternative" "noSystem" "Z" := slot_ne (Or.inr (hw _ (List.mem_of_getElem? (i := 37) rfl))) (Or.inr (hw _ (List.mem_of_getElem? (i := 49) rfl))) (by decide) pf_3 pf_7
theorem sn_com_example_operatory_operatory_fhir_SearchValue_Alternative_text__code {Z : State} {a0 : Array Value} (hw : ∀ d ∈ tables_1, d.before a0 Z = true) : Jvm.RoadKit.slotOf Z "com/example/operatory/operatory/fhir/SearchValue$Alternative" "text" "Ljava/lang/String;" ≠ Jvm.RoadKit.slotOf Z "com/example/operatory/operatory/fhir/SearchValue$Alternative" "code" "Ljava/lang/String;" := slot_ne (Or.inr (hw _ (List.mem_of_getElem? (i := 37) rfl))) (Or.inr (hw _ (List.mem_of_getElem? (i := 51) rfl))) (by decide) pf_3 pf_3
theorem sn_com_example_operatory_operatory_fhir_SearchValue_Alternative_text__value {Z : State} {a0 : Array Value} (hw : ∀ d ∈ tables_1, d.before a0 Z = true) : Jvm.RoadKit.slotOf Z "com/example/operatory/operatory/fhir/SearchValue$Alternative" "text" "Ljava/lang/String;" ≠ Jvm.RoadKit.slotOf Z "com/example/operatory/operatory/fhir/SearchValue$Alternative" "value" "Ljava/lang/String;" := slot_ne (Or.inr (hw _ (List.mem_of_getElem? (i := 37) rfl))) (Or.inr (hw _ (List.mem_of_getElem? (i := 53) rfl))) (by decide) pf_3 pf_3
theorem sn_com_example_operatory_operatory_fhir_SearchValue_Alternative_text__type {Z : State} {a0 : Array Value} (hw : ∀ d ∈ tables_1, d.before a0 Z = true) : Jvm.RoadKit.slotOf Z "com/example/operatory/operatory/fhir/SearchValue$Alternative" "text" "Ljava/lang/String;" ≠ Jvm.RoadKit.slotOf Z "com/example/operatory/operatory/fhir/SearchValue$Alternative" "type" "Ljava/lang/String;" := slot_ne (Or.inr (hw _ (List.mem_of_getElem? (i := 37) rfl))) (Or.inr (hw _ (List.mem_of_getElem? (i := 55) rfl))) (by decide) pf_3 pf_3
theorem sn_com_example_operatory_operatory_fhir_SearchValue_Alternative_text__id {Z : State} {a0 : Array Value} (hw : ∀ d ∈ tables_1, d.before a0 Z = true) : Jvm.RoadKit.slotOf Z "com/example/operatory/operatory/fhir/SearchValue$Alternative" "text" "Ljava/lang/String;" ≠ Jvm.RoadKit.slotOf Z "com/example/operatory/operatory/fhir/SearchValue$Alternative" "id" "Ljava/lang/String;" := slot_ne (Or.inr (hw _ (List.mem_of_getElem? (i := 37) rfl))) (Or.inr (hw _ (List.mem_of_getElem? (i := 57) rfl))) (by decide) pf_3 pf_3
theorem sn_com_example_operatory_operatory_fhir_SearchValue_Alternative_text__url {Z : State} {a0 : Array Value} (hw : ∀ d ∈ tables_1, d.before a0 Z = true) : Jvm.RoadKit.slotOf Z "com/example/operatory/operatory/fhir/SearchValue$Alternative" "text" "Ljava/lang/String;" ≠ Jvm.RoadKit.slotOf Z "com/example/operatory/operatory/fhir/SearchValue$Alternative" "url" "Ljava/lang/String;" := slot_ne (Or.inr (hw _ (List.mem_of_getElem? (i := 37) rfl))) (Or.inr (hw _ (List.mem_of_getElem? (i := 59) rfl))) (by decide) pf_3 pf_3
theorem sn_com_example_operatory_operatory_fhir_SearchValue_Alternative_text__missing {Z : State} {a0 : Array Value} (hw : ∀ d ∈ tables_1, d.before a0 Z = true) : Jvm.RoadKit.slotOf Z "com/example/operatory/operatory/fhir/SearchValue$Alternative" "text" "Ljava/lang/String;" ≠ Jvm.RoadKit.slotOf Z "com/example/operatory/operatory/fhir/SearchValue$Alternative" "missing" "Ljava/lang/Boolean;" := slot_ne (Or.inr (hw _ (List.mem_of_getElem? (i := 37) rfl))) (Or.inr (hw _ (List.mem_of_getElem? (i := 61) rfl))) (by decide) pf_3 pf_8
theorem sn_com_example_operatory_operatory_fhir_SearchValue_Alternative_prefix__number {Z : State} {a0 : Array Value} (hw : ∀ d ∈ tables_1, d.before a0 Z = true) : Jvm.RoadKit.slotOf Z "com/example/operatory/operatory/fhir/SearchValue$Alternative" "prefix" "Lcom/example/operatory/operatory/fhir/SearchValue$Prefix;" ≠ Jvm.RoadKit.slotOf Z "com/example/operatory/operatory/fhir/SearchValue$Alternative" "number" "Ljava/math/BigDecimal;" := slot_ne (Or.inr (hw _ (List.mem_of_getElem? (i := 39) rfl))) (Or.inr (hw _ (List.mem_of_getElem? (i := 41) rfl))) (by decide) pf_4 pf_5
theorem sn_com_example_operatory_operatory_fhir_SearchValue_Alternative_prefix__date {Z : State} {a0 : Array Value} (hw : ∀ d ∈ tables_1, d.before a0 Z = true) : Jvm.RoadKit.slotOf Z "com/example/operatory/operatory/fhir/SearchValue$Alternative" "prefix" "Lcom/example/operatory/operatory/fhir/SearchValue$Prefix;" ≠ Jvm.RoadKit.slotOf Z "com/example/operatory/operatory/fhir/SearchValue$Alternative" "date" "Ljava/lang/String;" := slot_ne (Or.inr (hw _ (List.mem_of_getElem? (i := 39) rfl))) (Or.inr (hw _ (List.mem_of_getElem? (i := 43) rfl))) (by decide) pf_4 pf_3
theorem sn_com_example_operatory_operatory_fhir_SearchValue_Alternative_prefix__precision {Z : State} {a0 : Array Value} (hw : ∀ d ∈ tables_1, d.before a0 Z = true) : Jvm.RoadKit.slotOf Z "com/example/operatory/operatory/fhir/SearchValue$Alternative" "prefix" "Lcom/example/operatory/operatory/fhir/SearchValue$Prefix;" ≠ Jvm.RoadKit.slotOf Z "com/example/operatory/operatory/fhir/SearchValue$Alternative" "precision" "Lcom/example/operatory/operatory/fhir/SearchValue$Precision;" := slot_ne (Or.inr (hw _ (List.mem_of_getElem? (i := 39) rfl))) (Or.inr (hw _ (List.mem_of_getElem? (i := 45) rfl))) (by decide) pf_4 pf_6
theorem sn_com_example_operatory_operatory_fhir_SearchValue_Alternative_prefix__system {Z : State} {a0 : Array Value} (hw : ∀ d ∈ tables_1, d.before a0 Z = true) : Jvm.RoadKit.slotOf Z "com/example/operatory/operatory/fhir/SearchValue$Alternative" "prefix" "Lcom/example/operatory/operatory/fhir/SearchValue$Prefix;" ≠ Jvm.RoadKit.slotOf Z "com/example/operatory/operatory/fhir/SearchValue$Alternative" "system" "Ljava/lang/String;" := slot_ne (Or.inr (hw _ (List.mem_of_getElem? (i := 39) rfl))) (Or.inr (hw _ (List.mem_of_getElem? (i := 47) rfl))) (by decide) pf_4 pf_3
theorem sn_com_example_operatory_operatory_fhir_SearchValue_Alternative_prefix__noSystem {Z : State} {a0 : Array Value} (hw : ∀ d ∈ tables_1, d.before a0 Z = true) : Jvm.RoadKit.slotOf Z "com/example/operatory/operatory/fhir/SearchValue$Alternative" "prefix" "Lcom/example/operatory/operatory/fhir/SearchValue$Prefix;" ≠ Jvm.RoadKit.slotOf Z "com/example/operatory/operatory/fhir/SearchValue$Alternative" "noSystem" "Z" := slot_ne (Or.inr (hw _ (List.mem_of_getElem? (i := 39) rfl))) (Or.inr (hw _ (List.mem_of_getElem? (i := 49) rfl))) (by decide) pf_4 pf_7
theorem sn_com_example_operatory_operatory_fhir_SearchValue_Alternative_prefix__code {Z : State} {a0 : Array Value} (hw : ∀ d ∈ tables_1, d.before a0 Z = true) : Jvm.RoadKit.slotOf Z "com/example/operatory/operatory/fhir/SearchValue$Alternative" "prefix" "Lcom/example/operatory/operatory/fhir/SearchValue$Prefix;" ≠ Jvm.RoadKit.slotOf Z "com/example/operatory/operatory/fhir/SearchValue$Alternative" "code" "Ljava/lang/String;" := slot_ne (Or.inr (hw _ (List.mem_of_getElem? (i := 39) rfl))) (Or.inr (hw _ (List.mem_of_getElem? (i := 51) rfl))) (by decide) pf_4 pf_3
theorem sn_com_example_operatory_operatory_fhir_SearchValue_Alternative_prefix__value {Z : State} {a0 : Array Value} (hw : ∀ d ∈ tables_1, d.before a0 Z = true) : Jvm.RoadKit.slotOf Z "com/example/operatory/operatory/fhir/SearchValue$Alternative" "prefix" "Lcom/example/operatory/operatory/fhir/SearchValue$Prefix;" ≠ Jvm.RoadKit.slotOf Z "com/example/operatory/operatory/fhir/SearchValue$Alternative" "value" "Ljava/lang/String;" := slot_ne (Or.inr (hw _ (List.mem_of_getElem? (i := 39) rfl))) (Or.inr (hw _ (List.mem_of_getElem? (i := 53) rfl))) (by decide) pf_4 pf_3
theorem sn_com_example_operatory_operatory_fhir_SearchValue_Alternative_prefix__type {Z : State} {a0 : Array Value} (hw : ∀ d ∈ tables_1, d.before a0 Z = true) : Jvm.RoadKit.slotOf Z "com/example/operatory/operatory/fhir/SearchValue$Alternative" "prefix" "Lcom/example/operatory/operatory/fhir/SearchValue$Prefix;" ≠ Jvm.RoadKit.slotOf Z "com/example/operatory/operatory/fhir/SearchValue$Alternative" "type" "Ljava/lang/String;" := slot_ne (Or.inr (hw _ (List.mem_of_getElem? (i := 39) rfl))) (Or.inr (hw _ (List.mem_of_getElem? (i := 55) rfl))) (by decide) pf_4 pf_3
theorem sn_com_example_operatory_operatory_fhir_SearchValue_Alternative_prefix__id {Z : State} {a0 : Array Value} (hw : ∀ d ∈ tables_1, d.before a0 Z = true) : Jvm.RoadKit.slotOf Z "com/example/operatory/operatory/fhir/SearchValue$Alternative" "prefix" "Lcom/example/operatory/operatory/fhir/SearchValue$Prefix;" ≠ Jvm.RoadKit.slotOf Z "com/example/operatory/operatory/fhir/SearchValue$Alternative" "id" "Ljava/lang/String;" := slot_ne (Or.inr (hw _ (List.mem_of_getElem? (i := 39) rfl))) (Or.inr (hw _ (List.mem_of_getElem? (i := 57) rfl))) (by decide) pf_4 pf_3
theorem sn_com_example_operatory_operatory_fhir_SearchValue_Alternative_prefix__url {Z : State} {a0 : Array Value} (hw : ∀ d ∈ tables_1, d.before a0 Z = true) : Jvm.RoadKit.slotOf Z "com/example/operatory/operatory/fhir/SearchValue$Alternative" "prefix" "Lcom/example/operatory/operatory/fhir/SearchValue$Prefix;" ≠ Jvm.RoadKit.slotOf Z "com/example/operatory/operatory/fhir/SearchValue$Alternative" "url" "Ljava/lang/String;" := slot_ne (Or.inr (hw _ (List.mem_of_getElem? (i := 39) rfl))) (Or.inr (hw _ (List.mem_of_getElem? (i := 59) rfl))) (by decide) pf_4 pf_3
theorem sn_com_example_operatory_operatory_fhir_SearchValue_Alternative_prefix__missing {Z : State} {a0 : Array Value} (hw : ∀ d ∈ tables_1, d.before a0 Z = true) : Jvm.RoadKit.slotOf Z "com/example/operatory/operatory/fhir/SearchValue$Alternative" "prefix" "Lcom/example/operatory/operatory/fhir/SearchValue$Prefix;" ≠ Jvm.RoadKit.slotOf Z "com/example/operatory/operatory/fhir/SearchValue$Alternative" "missing" "Ljava/lang/Boolean;" := slot_ne (Or.inr (hw _ (List.mem_of_getElem? (i := 39) rfl))) (Or.inr (hw _ (List.mem_of_getElem? (i := 61) rfl))) (by decide) pf_4 pf_8
theorem sn_com_example_operatory_operatory_fhir_SearchValue_Alternative_number__date {Z : State} {a0 : Array Value} (hw : ∀ d ∈ tables_1, d.before a0 Z = true) : Jvm.RoadKit.slotOf Z "com/example/operatory/operatory/fhir/SearchValue$Alternative" "number" "Ljava/math/BigDecimal;" ≠ Jvm.RoadKit.slotOf Z "com/example/operatory/operatory/fhir/SearchValue$Alternative" "date" "Ljava/lang/String;" := slot_ne (Or.inr (hw _ (List.mem_of_getElem? (i := 41) rfl))) (Or.inr (hw _ (List.mem_of_getElem? (i := 43) rfl))) (by decide) pf_5 pf_3
theorem sn_com_example_operatory_operatory_fhir_SearchValue_Alternative_number__precision {Z : State} {a0 : Array Value} (hw : ∀ d ∈ tables_1, d.before a0 Z = true) : Jvm.RoadKit.slotOf Z "com/example/operatory/operatory/fhir/SearchValue$Alternative" "number" "Ljava/math/BigDecimal;" ≠ Jvm.RoadKit.slotOf Z "com/example/operatory/operatory/fhir/SearchValue$Alternative" "precision" "Lcom/example/operatory/operatory/fhir/SearchValue$Precision;" := slot_ne (Or.inr (hw _ (List.mem_of_getElem? (i := 41) rfl))) (Or.inr (hw _ (List.mem_of_getElem? (i := 45) rfl))) (by decide) pf_5 pf_6
theorem sn_com_example_operatory_operatory_fhir_SearchValue_Alternative_number__system {Z : State} {a0 : Array Value} (hw : ∀ d ∈ tables_1, d.before a0 Z = true) : Jvm.RoadKit.slotOf Z "com/example/operatory/operatory/fhir/SearchValue$Alternative" "number" "Ljava/math/BigDecimal;" ≠ Jvm.RoadKit.slotOf Z "com/example/operatory/operatory/fhir/SearchValue$Alternative" "system" "Ljava/lang/String;" := slot_ne (Or.inr (hw _ (List.mem_of_getElem? (i := 41) rfl))) (Or.inr (hw _ (List.mem_of_getElem? (i := 47) rfl))) (by decide) pf_5 pf_3
theorem sn_com_example_operatory_operatory_fhir_SearchValue_Alternative_number__noSystem {Z : State} {a0 : Array Value} (hw : ∀ d ∈ tables_1, d.before a0 Z = true) : Jvm.RoadKit.slotOf Z "com/example/operatory/operatory/fhir/SearchValue$Alternative" "number" "Ljava/math/BigDecimal;" ≠ Jvm.RoadKit.slotOf Z "com/example/operatory/operatory/fhir/SearchValue$Alternative" "noSystem" "Z" := slot_ne (Or.inr (hw _ (List.mem_of_getElem? (i := 41) rfl))) (Or.inr (hw _ (List.mem_of_getElem? (i := 49) rfl))) (by decide) pf_5 pf_7
theorem sn_com_example_operatory_operatory_fhir_SearchValue_Alternative_number__code {Z : State} {a0 : Array Value} (hw : ∀ d ∈ tables_1, d.before a0 Z = true) : Jvm.RoadKit.slotOf Z "com/example/operatory/operatory/fhir/SearchValue$Alternative" "number" "Ljava/math/BigDecimal;" ≠ Jvm.RoadKit.slotOf Z "com/example/operatory/operatory/fhir/SearchValue$Alternative" "code" "Ljava/lang/String;" := slot_ne (Or.inr (hw _ (List.mem_of_getElem? (i := 41) rfl))) (Or.inr (hw _ (List.mem_of_getElem? (i := 51) rfl))) (by decide) pf_5 pf_3
theorem sn_com_example_operatory_operatory_fhir_SearchValue_Alternative_number__value {Z : State} {a0 : Array Value} (hw : ∀ d ∈ tables_1, d.before a0 Z = true) : Jvm.RoadKit.slotOf Z "com/example/operatory/operatory/fhir/SearchValue$Alternative" "number" "Ljava/math/BigDecimal;" ≠ Jvm.RoadKit.slotOf Z "com/example/operatory/operatory/fhir/SearchValue$Alternative" "value" "Ljava/lang/String;" := slot_ne (Or.inr (hw _ (List.mem_of_getElem? (i := 41) rfl))) (Or.inr (hw _ (List.mem_of_getElem? (i := 53) rfl))) (by decide) pf_5 pf_3
theorem sn_com_example_operatory_operatory_fhir_SearchValue_Alternative_number__type {Z : State} {a0 : Array Value} (hw : ∀ d ∈ tables_1, d.before a0 Z = true) : Jvm.RoadKit.slotOf Z "com/example/operatory/operatory/fhir/SearchValue$Alternative" "number" "Ljava/math/BigDecimal;" ≠ Jvm.RoadKit.slotOf Z "com/example/operatory/operatory/fhir/SearchValue$Alternative" "type" "Ljava/lang/String;" := slot_ne (Or.inr (hw _ (List.mem_of_getElem? (i := 41) rfl))) (Or.inr (hw _ (List.mem_of_getElem? (i := 55) rfl))) (by decide) pf_5 pf_3
theorem sn_com_example_operatory_operatory_fhir_SearchValue_Alternative_number__id {Z : State} {a0 : Array Value} (hw : ∀ d ∈ tables_1, d.before a0 Z = true) : Jvm.RoadKit.slotOf Z "com/example/operatory/operatory/fhir/SearchValue$Alternative" "number" "Ljava/math/BigDecimal;" ≠ Jvm.RoadKit.slotOf Z "com/example/operatory/operatory/fhir/SearchValue$Alternative" "id" "Ljava/lang/String;" := slot_ne (Or.inr (hw _ (List.mem_of_getElem? (i := 41) rfl))) (Or.inr (hw _ (List.mem_of_getElem? (i := 57) rfl))) (by decide) pf_5 pf_3
theorem sn_com_example_operatory_operatory_fhir_SearchValue_Alternative_number__url {Z : State} {a0 : Array Value} (hw : ∀ d ∈ tables_1, d.before a0 Z = true) : Jvm.RoadKit.slotOf Z "com/example/operatory/operatory/fhir/SearchValue$Alternative" "number" "Ljava/math/BigDecimal;" ≠ Jvm.RoadKit.slotOf Z "com/example/operatory/operatory/fhir/SearchValue$Alternative" "url" "Ljava/lang/String;" := slot_ne (Or.inr (hw _ (List.mem_of_getElem? (i := 41) rfl))) (Or.inr (hw _ (List.mem_of_getElem? (i := 59) rfl))) (by decide) pf_5 pf_3
theorem sn_com_example_operatory_operatory_fhir_SearchValue_Alternative_number__missing {Z : State} {a0 : Array Value} (hw : ∀ d ∈ tables_1, d.before a0 Z = true) : Jvm.RoadKit.slotOf Z "com/example/operatory/operatory/fhir/SearchValue$Alternative" "number" "Ljava/math/BigDecimal;" ≠ Jvm.RoadKit.slotOf Z "com/example/operatory/operatory/fhir/SearchValue$Alternative" "missing" "Ljava/lang/Boolean;" := slot_ne (Or.inr (hw _ (List.mem_of_getElem? (i := 41) rfl))) (Or.inr (hw _ (List.mem_of_getElem? (i := 61) rfl))) (by decide) pf_5 pf_8
theorem sn_com_example_operatory_operatory_fhir_SearchValue_Alternative_date__precision {Z : State} {a0 : Array Value} (hw : ∀ d ∈ tables_1, d.before a0 Z = true) : Jvm.RoadKit.slotOf Z "com/example/operatory/operatory/fhir/SearchValue$Alternative" "date" "Ljava/lang/String;" ≠ Jvm.RoadKit.slotOf Z "com/example/operatory/operatory/fhir/SearchValue$Alternative" "precision" "Lcom/example/operatory/operatory/fhir/SearchValue$Precision;" := slot_ne (Or.inr (hw _ (List.mem_of_getElem? (i := 43) rfl))) (Or.inr (hw _ (List.mem_of_getElem? (i := 45) rfl))) (by decide) pf_3 pf_6
theorem sn_com_example_operatory_operatory_fhir_SearchValue_Alternative_date__system {Z : State} {a0 : Array Value} (hw : ∀ d ∈ tables_1, d.before a0 Z = true) : Jvm.RoadKit.slotOf Z "com/example/operatory/operatory/fhir/SearchValue$Alternative" "date" "Ljava/lang/String;" ≠ Jvm.RoadKit.slotOf Z "com/example/operatory/operatory/fhir/SearchValue$Alternative" "system" "Ljava/lang/String;" := slot_ne (Or.inr (hw _ (List.mem_of_getElem? (i := 43) rfl))) (Or.inr (hw _ (List.mem_of_getElem? (i := 47) rfl))) (by decide) pf_3 pf_3
theorem sn_com_example_operatory_operatory_fhir_SearchValue_Alternative_date__noSystem {Z : State} {a0 : Array Value} (hw : ∀ d ∈ tables_1, d.before a0 Z = true) : Jvm.RoadKit.slotOf Z "com/example/operatory/operatory/fhir/SearchValue$Alternative" "date" "Ljava/lang/String;" ≠ Jvm.RoadKit.slotOf Z "com/example/operatory/operatory/fhir/SearchValue$Alternative" "noSystem" "Z" := slot_ne (Or.inr (hw _ (List.mem_of_getElem? (i := 43) rfl))) (Or.inr (hw _ (List.mem_of_getElem? (i := 49) rfl))) (by decide) pf_3 pf_7
theorem sn_com_example_operatory_operatory_fhir_SearchValue_Alternative_date__code {Z : State} {a0 : Array Value} (hw : ∀ d ∈ tables_1, d.before a0 Z = true) : Jvm.RoadKit.slotOf Z "com/example/operatory/operatory/fhir/SearchValue$Alternative" "date" "Ljava/lang/String;" ≠ Jvm.RoadKit.slotOf Z "com/example/operatory/operatory/fhir/SearchValue$Alternative" "code" "Ljava/lang/String;" := slot_ne (Or.inr (hw _ (List.mem_of_getElem? (i := 43) rfl))) (Or.inr (hw _ (List.mem_of_getElem? (i := 51) rfl))) (by decide) pf_3 pf_3
theorem sn_com_example_operatory_operatory_fhir_SearchValue_Alternative_date__value {Z : State} {a0 : Array Value} (hw : ∀ d ∈ tables_1, d.before a0 Z = true) : Jvm.RoadKit.slotOf Z "com/example/operatory/operatory/fhir/SearchValue$Alternative" "date" "Ljava/lang/String;" ≠ Jvm.RoadKit.slotOf Z "com/example/operatory/operatory/fhir/SearchValue$Alternative" "value" "Ljava/lang/String;" := slot_ne (Or.inr (hw _ (List.mem_of_getElem? (i := 43) rfl))) (Or.inr (hw _ (List.mem_of_getElem? (i := 53) rfl))) (by decide) pf_3 pf_3
theorem sn_com_example_operatory_operatory_fhir_SearchValue_Alternative_date__type {Z : State} {a0 : Array Value} (hw : ∀ d ∈ tables_1, d.before a0 Z = true) : Jvm.RoadKit.slotOf Z "com/example/operatory/operatory/fhir/SearchValue$Alternative" "date" "Ljava/lang/String;" ≠ Jvm.RoadKit.slotOf Z "com/example/operatory/operatory/fhir/SearchValue$Alternative" "type" "Ljava/lang/String;" := slot_ne (Or.inr (hw _ (List.mem_of_getElem? (i := 43) rfl))) (Or.inr (hw _ (List.mem_of_getElem? (i := 55) rfl))) (by decide) pf_3 pf_3
theorem sn_com_example_operatory_operatory_fhir_SearchValue_Alternative_date__id {Z : State} {a0 : Array Value} (hw : ∀ d ∈ tables_1, d.before a0 Z = true) : Jvm.RoadKit.slotOf Z "com/example/operatory/operatory/fhir/SearchValue$Alternative" "date" "Ljava/lang/String;" ≠ Jvm.RoadKit.slotOf Z "com/example/operatory/operatory/fhir/SearchValue$Alternative" "id" "Ljava/lang/String;" := slot_ne (Or.inr (hw _ (List.mem_of_getElem? (i := 43) rfl))) (Or.inr (hw _ (List.mem_of_getElem? (i := 57) rfl))) (by decide) pf_3 pf_3
theorem sn_com_example_operatory_operatory_fhir_SearchValue_Alternative_date__url {Z : State} {a0 : Array Value} (hw : ∀ d ∈ tables_1, d.before a0 Z = true) : Jvm.RoadKit.slotOf Z "com/example/operatory/operatory/fhir/SearchValue$Alternative" "date" "Ljava/lang/String;" ≠ Jvm.RoadKit.slotOf Z "com/example/operatory/operatory/fhir/SearchValue$Alternative" "url" "Ljava/lang/String;" := slot_ne (Or.inr (hw _ (List.mem_of_getElem? (i := 43) rfl))) (Or.inr (hw _ (List.mem_of_getElem? (i := 59) rfl))) (by decide) pf_3 pf_3
theorem sn_com_example_operatory_operatory_fhir_SearchValue_Alternative_date__missing {Z : State} {a0 : Array Value} (hw : ∀ d ∈ tables_1, d.before a0 Z = true) : Jvm.RoadKit.slotOf Z "com/example/operatory/operatory/fhir/SearchValue$Alternative" "date" "Ljava/lang/String;" ≠ Jvm.RoadKit.slotOf Z "com/example/operatory/operatory/fhir/SearchValue$Alternative" "missing" "Ljava/lang/Boolean;" := slot_ne (Or.inr (hw _ (List.mem_of_getElem? (i := 43) rfl))) (Or.inr (hw _ (List.mem_of_getElem? (i := 61) rfl))) (by decide) pf_3 pf_8
theorem sn_com_example_operatory_operatory_fhir_SearchValue_Alternative_precision__system {Z : State} {a0 : Array Value} (hw : ∀ d ∈ tables_1, d.before a0 Z = true) : Jvm.RoadKit.slotOf Z "com/example/operatory/operatory/fhir/SearchValue$Alternative" "precision" "Lcom/example/operatory/operatory/fhir/SearchValue$Precision;" ≠ Jvm.RoadKit.slotOf Z "com/example/operatory/operatory/fhir/SearchValue$Alternative" "system" "Ljava/lang/String;" := slot_ne (Or.inr (hw _ (List.mem_of_getElem? (i := 45) rfl))) (Or.inr (hw _ (List.mem_of_getElem? (i := 47) rfl))) (by decide) pf_6 pf_3
theorem sn_com_example_operatory_operatory_fhir_SearchValue_Alternative_precision__noSystem {Z : State} {a0 : Array Value} (hw : ∀ d ∈ tables_1, d.before a0 Z = true) : Jvm.RoadKit.slotOf Z "com/example/operatory/operatory/fhir/SearchValue$Alternative" "precision" "Lcom/example/operatory/operatory/fhir/SearchValue$Precision;" ≠ Jvm.RoadKit.slotOf Z "com/example/operatory/operatory/fhir/SearchValue$Alternative" "noSystem" "Z" := slot_ne (Or.inr (hw _ (List.mem_of_getElem? (i := 45) rfl))) (Or.inr (hw _ (List.mem_of_getElem? (i := 49) rfl))) (by decide) pf_6 pf_7
theorem sn_com_example_operatory_operatory_fhir_SearchValue_Alternative_precision__code {Z : State} {a0 : Array Value} (hw : ∀ d ∈ tables_1, d.before a0 Z = true) : Jvm.RoadKit.slotOf Z "com/example/operatory/operatory/fhir/SearchValue$Alternative" "precision" "Lcom/example/operatory/operatory/fhir/SearchValue$Precision;" ≠ Jvm.RoadKit.slotOf Z "com/example/operatory/operatory/fhir/SearchValue$Alternative" "code" "Ljava/lang/String;" := slot_ne (Or.inr (hw _ (List.mem_of_getElem? (i := 45) rfl))) (Or.inr (hw _ (List.mem_of_getElem? (i := 51) rfl))) (by decide) pf_6 pf_3
theorem sn_com_example_operatory_operatory_fhir_SearchValue_Alternative_precision__value {Z : State} {a0 : Array Value} (hw : ∀ d ∈ tables_1, d.before a0 Z = true) : Jvm.RoadKit.slotOf Z "com/example/operatory/operatory/fhir/SearchValue$Alternative" "precision" "Lcom/example/operatory/operatory/fhir/SearchValue$Precision;" ≠ Jvm.RoadKit.slotOf Z "com/example/operatory/operatory/fhir/SearchValue$Alternative" "value" "Ljava/lang/String;" := slot_ne (Or.inr (hw _ (List.mem_of_getElem? (i := 45) rfl))) (Or.inr (hw _ (List.mem_of_getElem? (i := 53) rfl))) (by decide) pf_6 pf_3
theorem sn_com_example_operatory_operatory_fhir_SearchValue_Alternative_precision__type {Z : State} {a0 : Array Value} (hw : ∀ d ∈ tables_1, d.before a0 Z = true) : Jvm.RoadKit.slotOf Z "com/example/operatory/operatory/fhir/SearchValue$Alternative" "precision" "Lcom/example/operatory/operatory/fhir/SearchValue$Precision;" ≠ Jvm.RoadKit.slotOf Z "com/example/operatory/operatory/fhir/SearchValue$Alternative" "type" "Ljava/lang/String;" := slot_ne (Or.inr (hw _ (List.mem_of_getElem? (i := 45) rfl))) (Or.inr (hw _ (List.mem_of_getElem? (i := 55) rfl))) (by decide) pf_6 pf_3
theorem sn_com_example_operatory_operatory_fhir_SearchValue_Alternative_precision__id {Z : State} {a0 : Array Value} (hw : ∀ d ∈ tables_1, d.before a0 Z = true) : Jvm.RoadKit.slotOf Z "com/example/operatory/operatory/fhir/SearchValue$Alternative" "precision" "Lcom/example/operatory/operatory/fhir/SearchValue$Precision;" ≠ Jvm.RoadKit.slotOf Z "com/example/operatory/operatory/fhir/SearchValue$Alternative" "id" "Ljava/lang/String;" := slot_ne (Or.inr (hw _ (List.mem_of_getElem? (i := 45) rfl))) (Or.inr (hw _ (List.mem_of_getElem? (i := 57) rfl))) (by decide) pf_6 pf_3
theorem sn_com_example_operatory_operatory_fhir_SearchValue_Alternative_precision__url {Z : State} {a0 : Array Value} (hw : ∀ d ∈ tables_1, d.before a0 Z = true) : Jvm.RoadKit.slotOf Z "com/example/operatory/operatory/fhir/SearchValue$Alternative" "precision" "Lcom/example/operatory/operatory/fhir/SearchValue$Precision;" ≠ Jvm.RoadKit.slotOf Z "com/example/operatory/operatory/fhir/SearchValue$Alternative" "url" "Ljava/lang/String;" := slot_ne (Or.inr (hw _ (List.mem_of_getElem? (i := 45) rfl))) (Or.inr (hw _ (List.mem_of_getElem? (i := 59) rfl))) (by decide) pf_6 pf_3
theorem sn_com_example_operatory_operatory_fhir_SearchValue_Alternative_precision__missing {Z : State} {a0 : Array Value} (hw : ∀ d ∈ tables_1, d.before a0 Z = true) : Jvm.RoadKit.slotOf Z "com/example/operatory/operatory/fhir/SearchValue$Alternative" "precision" "Lcom/example/operatory/operatory/fhir/SearchValue$Precision;" ≠ Jvm.RoadKit.slotOf Z "com/example/operatory/operatory/fhir/SearchValue$Alternative" "missing" "Ljava/lang/Boolean;" := slot_ne (Or.inr (hw _ (List.mem_of_getElem? (i := 45) rfl))) (Or.inr (hw _ (List.mem_of_getElem? (i := 61) rfl))) (by decide) pf_6 pf_8
theorem sn_com_example_operatory_operatory_fhir_SearchValue_Alternative_system__noSystem {Z : State} {a0 : Array Value} (hw : ∀ d ∈ tables_1, d.before a0 Z = true) : Jvm.RoadKit.slotOf Z "com/example/operatory/operatory/fhir/SearchValue$Alternative" "system" "Ljava/lang/String;" ≠ Jvm.RoadKit.slotOf Z "com/example/operatory/operatory/fhir/SearchValue$Alternative" "noSystem" "Z" := slot_ne (Or.inr (hw _ (List.mem_of_getElem? (i := 47) rfl))) (Or.inr (hw _ (List.mem_of_getElem? (i := 49) rfl))) (by decide) pf_3 pf_7
theorem sn_com_example_operatory_operatory_fhir_SearchValue_Alternative_system__code {Z : State} {a0 : Array Value} (hw : ∀ d ∈ tables_1, d.before a0 Z = true) : Jvm.RoadKit.slotOf Z "com/example/operatory/operatory/fhir/SearchValue$Alternative" "system" "Ljava/lang/String;" ≠ Jvm.RoadKit.slotOf Z "com/example/operatory/operatory/fhir/SearchValue$Alternative" "code" "Ljava/lang/String;" := slot_ne (Or.inr (hw _ (List.mem_of_getElem? (i := 47) rfl))) (Or.inr (hw _ (List.mem_of_getElem? (i := 51) rfl))) (by decide) pf_3 pf_3
theorem sn_com_example_operatory_operatory_fhir_SearchValue_Alternative_system__value {Z : State} {a0 : Array Value} (hw : ∀ d ∈ tables_1, d.before a0 Z = true) : Jvm.RoadKit.slotOf Z "com/example/operatory/operatory/fhir/SearchValue$Alternative" "system" "Ljava/lang/String;" ≠ Jvm.RoadKit.slotOf Z "com/example/operatory/operatory/fhir/SearchValue$Alternative" "value" "Ljava/lang/String;" := slot_ne (Or.inr (hw _ (List.mem_of_getElem? (i := 47) rfl))) (Or.inr (hw _ (List.mem_of_getElem? (i := 53) rfl))) (by decide) pf_3 pf_3
theorem sn_com_example_operatory_operatory_fhir_SearchValue_Alternative_system__type {Z : State} {a0 : Array Value} (hw : ∀ d ∈ tables_1, d.before a0 Z = true) : Jvm.RoadKit.slotOf Z "com/example/operatory/operatory/fhir/SearchValue$Alternative" "system" "Ljava/lang/String;" ≠ Jvm.RoadKit.slotOf Z "com/example/operatory/operatory/fhir/SearchValue$Alternative" "type" "Ljava/lang/String;" := slot_ne (Or.inr (hw _ (List.mem_of_getElem? (i := 47) rfl))) (Or.inr (hw _ (List.mem_of_getElem? (i := 55) rfl))) (by decide) pf_3 pf_3
theorem sn_com_example_operatory_operatory_fhir_SearchValue_Alternative_system__id {Z : State} {a0 : Array Value} (hw : ∀ d ∈ tables_1, d.before a0 Z = true) : Jvm.RoadKit.slotOf Z "com/example/operatory/operatory/fhir/SearchValue$Alternative" "system" "Ljava/lang/String;" ≠ Jvm.RoadKit.slotOf Z "com/example/operatory/operatory/fhir/SearchValue$Alternative" "id" "Ljava/lang/String;" := slot_ne (Or.inr (hw _ (List.mem_of_getElem? (i := 47) rfl))) (Or.inr (hw _ (List.mem_of_getElem? (i := 57) rfl))) (by decide) pf_3 pf_3
theorem sn_com_example_operatory_operatory_fhir_SearchValue_Alternative_system__url {Z : State} {a0 : Array Value} (hw : ∀ d ∈ tables_1, d.before a0 Z = true) : Jvm.RoadKit.slotOf Z "com/example/operatory/operatory/fhir/SearchValue$Alternative" "system" "Ljava/lang/String;" ≠ Jvm.RoadKit.slotOf Z "com/example/operatory/operatory/fhir/SearchValue$Alternative" "url" "Ljava/lang/String;" := slot_ne (Or.inr (hw _ (List.mem_of_getElem? (i := 47) rfl))) (Or.inr (hw _ (List.mem_of_getElem? (i := 59) rfl))) (by decide) pf_3 pf_3
theorem sn_com_example_operatory_operatory_fhir_SearchValue_Alternative_system__missing {Z : State} {a0 : Array Value} (hw : ∀ d ∈ tables_1, d.before a0 Z = true) : Jvm.RoadKit.slotOf Z "com/example/operatory/operatory/fhir/SearchValue$Alternative" "system" "Ljava/lang/String;" ≠ Jvm.RoadKit.slotOf Z "com/example/operatory/operatory/fhir/SearchValue$Alternative" "missing" "Ljava/lang/Boolean;" := slot_ne (Or.inr (hw _ (List.mem_of_getElem? (i := 47) rfl))) (Or.inr (hw _ (List.mem_of_getElem? (i := 61) rfl))) (by decide) pf_3 pf_8
theorem sn_com_example_operatory_operatory_fhir_SearchValue_Alternative_noSystem__code {Z : State} {a0 : Array Value} (hw : ∀ d ∈ tables_1, d.before a0 Z = true) : Jvm.RoadKit.slotOf Z "com/example/operatory/operatory/fhir/SearchValue$Alternative" "noSystem" "Z" ≠ Jvm.RoadKit.slotOf Z "com/example/operatory/operatory/fhir/SearchValue$Alternative" "code" "Ljava/lang/String;" := slot_ne (Or.inr (hw _ (List.mem_of_getElem? (i := 49) rfl))) (Or.inr (hw _ (List.mem_of_getElem? (i := 51) rfl))) (by decide) pf_7 pf_3
theorem sn_com_example_operatory_operatory_fhir_SearchValue_Alternative_noSystem__value {Z : State} {a0 : Array Value} (hw : ∀ d ∈ tables_1, d.before a0 Z = true) : Jvm.RoadKit.slotOf Z "com/example/operatory/operatory/fhir/SearchValue$Alternative" "noSystem" "Z" ≠ Jvm.RoadKit.slotOf Z "com/example/operatory/operatory/fhir/SearchValue$Alternative" "value" "Ljava/lang/String;" := slot_ne (Or.inr (hw _ (List.mem_of_getElem? (i := 49) rfl))) (Or.inr (hw _ (List.mem_of_getElem? (i := 53) rfl))) (by decide) pf_7 pf_3
theorem sn_com_example_operatory_operatory_fhir_SearchValue_Alternative_noSystem__type {Z : State} {a0 : Array Value} (hw : ∀ d ∈ tables_1, d.before a0 Z = true) : Jvm.RoadKit.slotOf Z "com/example/operatory/operatory/fhir/SearchValue$Alternative" "noSystem" "Z" ≠ Jvm.RoadKit.slotOf Z "com/example/operatory/operatory/fhir/SearchValue$Alternative" "type" "Ljava/lang/String;" := slot_ne (Or.inr (hw _ (List.mem_of_getElem? (i := 49) rfl))) (Or.inr (hw _ (List.mem_of_getElem? (i := 55) rfl))) (by decide) pf_7 pf_3
theorem sn_com_example_operatory_operatory_fhir_SearchValue_Alternative_noSystem__id {Z : State} {a0 : Array Value} (hw : ∀ d ∈ tables_1, d.before a0 Z = true) : Jvm.RoadKit.slotOf Z "com/example/operatory/operatory/fhir/SearchValue$Alternative" "noSystem" "Z" ≠ Jvm.RoadKit.slotOf Z "com/example/operatory/operatory/fhir/SearchValue$Alternative" "id" "Ljava/lang/String;" := slot_ne (Or.inr (hw _ (List.mem_of_getElem? (i := 49) rfl))) (Or.inr (hw _ (List.mem_of_getElem? (i := 57) rfl))) (by decide) pf_7 pf_3
theorem sn_com_example_operatory_operatory_fhir_SearchValue_Alternative_noSystem__url {Z : State} {a0 : Array Value} (hw : ∀ d ∈ tables_1, d.before a0 Z = true) : Jvm.RoadKit.slotOf Z "com/example/operatory/operatory/fhir/SearchValue$Alternative" "noSystem" "Z" ≠ Jvm.RoadKit.slotOf Z "com/example/operatory/operatory/fhir/SearchValue$Alternative" "url" "Ljava/lang/String;" := slot_ne (Or.inr (hw _ (List.mem_of_getElem? (i := 49) rfl))) (Or.inr (hw _ (List.mem_of_getElem? (i := 59) rfl))) (by decide) pf_7 pf_3
theorem sn_com_example_operatory_operatory_fhir_SearchValue_Alternative_noSystem__missing {Z : State} {a0 : Array Value} (hw : ∀ d ∈ tables_1, d.before a0 Z = true) : Jvm.RoadKit.slotOf Z "com/example/operatory/operatory/fhir/SearchValue$Alternative" "noSystem" "Z" ≠ Jvm.RoadKit.slotOf Z "com/example/operatory/operatory/fhir/SearchValue$Alternative" "missing" "Ljava/lang/Boolean;" := slot_ne (Or.inr (hw _ (List.mem_of_getElem? (i := 49) rfl))) (Or.inr (hw _ (List.mem_of_getElem? (i := 61) rfl))) (by decide) pf_7 pf_8
theorem sn_com_example_operatory_operatory_fhir_SearchValue_Alternative_code__value {Z : State} {a0 : Array Value} (hw : ∀ d ∈ tables_1, d.before a0 Z = true) : Jvm.RoadKit.slotOf Z "com/example/operatory/operatory/fhir/SearchValue$Alternative" "code" "Ljava/lang/String;" ≠ Jvm.RoadKit.slotOf Z "com/example/operatory/operatory/fhir/SearchValue$Alternative" "value" "Ljava/lang/String;" := slot_ne (Or.inr (hw _ (List.mem_of_getElem? (i := 51) rfl))) (Or.inr (hw _ (List.mem_of_getElem? (i := 53) rfl))) (by decide) pf_3 pf_3
theorem sn_com_example_operatory_operatory_fhir_SearchValue_Alternative_code__type {Z : State} {a0 : Array Value} (hw : ∀ d ∈ tables_1, d.before a0 Z = true) : Jvm.RoadKit.slotOf Z "com/example/operatory/operatory/fhir/SearchValue$Alternative" "code" "Ljava/lang/String;" ≠ Jvm.RoadKit.slotOf Z "com/example/operatory/operatory/fhir/SearchValue$Alternative" "type" "Ljava/lang/String;" := slot_ne (Or.inr (hw _ (List.mem_of_getElem? (i := 51) rfl))) (Or.inr (hw _ (List.mem_of_getElem? (i := 55) rfl))) (by decide) pf_3 pf_3
theorem sn_com_example_operatory_operatory_fhir_SearchValue_Alternative_code__id {Z : State} {a0 : Array Value} (hw : ∀ d ∈ tables_1, d.before a0 Z = true) : Jvm.RoadKit.slotOf Z "com/example/operatory/operatory/fhir/SearchValue$Alternative" "code" "Ljava/lang/String;" ≠ Jvm.RoadKit.slotOf Z "com/example/operatory/operatory/fhir/SearchValue$Alternative" "id" "Ljava/lang/String;" := slot_ne (Or.inr (hw _ (List.mem_of_getElem? (i := 51) rfl))) (Or.inr (hw _ (List.mem_of_getElem? (i := 57) rfl))) (by decide) pf_3 pf_3
theorem sn_com_example_operatory_operatory_fhir_SearchValue_Alternative_code__url {Z : State} {a0 : Array Value} (hw : ∀ d ∈ tables_1, d.before a0 Z = true) : Jvm.RoadKit.slotOf Z "com/example/operatory/operatory/fhir/SearchValue$Alternative" "code" "Ljava/lang/String;" ≠ Jvm.RoadKit.slotOf Z "com/example/operatory/operatory/fhir/SearchValue$Alternative" "url" "Ljava/lang/String;" := slot_ne (Or.inr (hw _ (List.mem_of_getElem? (i := 51) rfl))) (Or.inr (hw _ (List.mem_of_getElem? (i := 59) rfl))) (by decide) pf_3 pf_3
theorem sn_com_example_operatory_operatory_fhir_SearchValue_Alternative_code__missing {Z : State} {a0 : Array Value} (hw : ∀ d ∈ tables_1, d.before a0 Z = true) : Jvm.RoadKit.slotOf Z "com/example/operatory/operatory/fhir/SearchValue$Alternative" "code" "Ljava/lang/String;" ≠ Jvm.RoadKit.slotOf Z "com/example/operatory/operatory/fhir/SearchValue$Alternative" "missing" "Ljava/lang/Boolean;" := slot_ne (Or.inr (hw _ (List.mem_of_getElem? (i := 51) rfl))) (Or.inr (hw _ (List.mem_of_getElem? (i := 61) rfl))) (by decide) pf_3 pf_8
theorem sn_com_example_operatory_operatory_fhir_SearchValue_Alternative_value__type {Z : State} {a0 : Array Value} (hw : ∀ d ∈ tables_1, d.before a0 Z = true) : Jvm.RoadKit.slotOf Z "com/example/operatory/operatory/fhir/SearchValue$Alternative" "value" "Ljava/lang/String;" ≠ Jvm.RoadKit.slotOf Z "com/example/operatory/operatory/fhir/SearchValue$Alternative" "type" "Ljava/lang/String;" := slot_ne (Or.inr (hw _ (List.mem_of_getElem? (i := 53) rfl))) (Or.inr (hw _ (List.mem_of_getElem? (i := 55) rfl))) (by decide) pf_3 pf_3
theorem sn_com_example_operatory_operatory_fhir_SearchValue_Alternative_value__id {Z : State} {a0 : Array Value} (hw : ∀ d ∈ tables_1, d.before a0 Z = true) : Jvm.RoadKit.slotOf Z "com/example/operatory/operatory/fhir/SearchValue$Alternative" "value" "Ljava/lang/String;" ≠ Jvm.RoadKit.slotOf Z "com/example/operatory/operatory/fhir/SearchValue$Alternative" "id" "Ljava/lang/String;" := slot_ne (Or.inr (hw _ (List.mem_of_getElem? (i := 53) rfl))) (Or.inr (hw _ (List.mem_of_getElem? (i := 57) rfl))) (by decide) pf_3 pf_3
theorem sn_com_example_operatory_operatory_fhir_SearchValue_Alternative_value__url {Z : State} {a0 : Array Value} (hw : ∀ d ∈ tables_1, d.before a0 Z = true) : Jvm.RoadKit.slotOf Z "com/example/operatory/operatory/fhir/SearchValue$Alternative" "value" "Ljava/lang/String;" ≠ Jvm.RoadKit.slotOf Z "com/example/operatory/operatory/fhir/SearchValue$Alternative" "url" "Ljava/lang/String;" := slot_ne (Or.inr (hw _ (List.mem_of_getElem? (i := 53) rfl))) (Or.inr (hw _ (List.mem_of_getElem? (i := 59) rfl))) (by decide) pf_3 pf_3
theorem sn_com_example_operatory_operatory_fhir_SearchValue_Alternative_value__missing {Z : State} {a0 : Array Value} (hw : ∀ d ∈ tables_1, d.before a0 Z = true) : Jvm.RoadKit.slotOf Z "com/example/operatory/operatory/fhir/SearchValue$Alternative" "value" "Ljava/lang/String;" ≠ Jvm.RoadKit.slotOf Z "com/example/operatory/operatory/fhir/SearchValue$Alternative" "missing" "Ljava/lang/Boolean;" := slot_ne (Or.inr (hw _ (List.mem_of_getElem? (i := 53) rfl))) (Or.inr (hw _ (List.mem_of_getElem? (i := 61) rfl))) (by decide) pf_3 pf_8
theorem sn_com_example_operatory_operatory_fhir_SearchValue_Alternative_type__id {Z : State} {a0 : Array Value} (hw : ∀ d ∈ tables_1, d.before a0 Z = true) : Jvm.RoadKit.slotOf Z "com/example/operatory/operatory/fhir/SearchValue$Alternative" "type" "Ljava/lang/String;" ≠ Jvm.RoadKit.slotOf Z "com/example/operatory/operatory/fhir/SearchValue$Alternative" "id" "Ljava/lang/String;" := slot_ne (Or.inr (hw _ (List.mem_of_getElem? (i := 55) rfl))) (Or.inr (hw _ (List.mem_of_getElem? (i := 57) rfl))) (by decide) pf_3 pf_3
theorem sn_com_example_operatory_operatory_fhir_SearchValue_Alternative_type__url {Z : State} {a0 : Array Value} (hw : ∀ d ∈ tables_1, d.before a0 Z = true) : Jvm.RoadKit.slotOf Z "com/example/operatory/operatory/fhir/SearchValue$Alternative" "type" "Ljava/lang/String;" ≠ Jvm.RoadKit.slotOf Z "com/example/operatory/operatory/fhir/SearchValue$Alternative" "url" "Ljava/lang/String;" := slot_ne (Or.inr (hw _ (List.mem_of_getElem? (i := 55) rfl))) (Or.inr (hw _ (List.mem_of_getElem? (i := 59) rfl))) (by decide) pf_3 pf_3
theorem sn_com_example_operatory_operatory_fhir_SearchValue_Alternative_type__missing {Z : State} {a0 : Array Value} (hw : ∀ d ∈ tables_1, d.before a0 Z = true) : Jvm.RoadKit.slotOf Z "com/example/operatory/operatory/fhir/SearchValue$Alternative" "type" "Ljava/lang/String;" ≠ Jvm.RoadKit.slotOf Z "com/example/operatory/operatory/fhir/SearchValue$Alternative" "missing" "Ljava/lang/Boolean;" := slot_ne (Or.inr (hw _ (List.mem_of_getElem? (i := 55) rfl))) (Or.inr (hw _ (List.mem_of_getElem? (i := 61) rfl))) (by decide) pf_3 pf_8
theorem sn_com_example_operatory_operatory_fhir_SearchValue_Alternative_id__url {Z : State} {a0 : Array Value} (hw : ∀ d ∈ tables_1, d.before a0 Z = true) : Jvm.RoadKit.slotOf Z "com/example/operatory/operatory/fhir/SearchValue$Alternative" "id" "Ljava/lang/String;" ≠ Jvm.RoadKit.slotOf Z "com/example/operatory/operatory/fhir/SearchValue$Alternative" "url" "Ljava/lang/String;" := slot_ne (Or.inr (hw _ (List.mem_of_getElem? (i := 57) rfl))) (Or.inr (hw _ (List.mem_of_getElem? (i := 59) rfl))) (by decide) pf_3 pf_3
theorem sn_com_example_operatory_operatory_fhir_SearchValue_Alternative_id__missing {Z : State} {a0 : Array Value} (hw : ∀ d ∈ tables_1, d.before a0 Z = true) : Jvm.RoadKit.slotOf Z "com/example/operatory/operatory/fhir/SearchValue$Alternative" "id" "Ljava/lang/String;" ≠ Jvm.RoadKit.slotOf Z "com/example/operatory/operatory/fhir/SearchValue$Alternative" "missing" "Ljava/lang/Boolean;" := slot_ne (Or.inr (hw _ (List.mem_of_getElem? (i := 57) rfl))) (Or.inr (hw _ (List.mem_of_getElem? (i := 61) rfl))) (by decide) pf_3 pf_8
theorem sn_com_example_operatory_operatory_fhir_SearchValue_Alternative_url__missing {Z : State} {a0 : Array Value} (hw : ∀ d ∈ tables_1, d.before a0 Z = true) : Jvm.RoadKit.slotOf Z "com/example/operatory/operatory/fhir/SearchValue$Alternative" "url" "Ljava/lang/String;" ≠ Jvm.RoadKit.slotOf Z "com/example/operatory/operatory/fhir/SearchValue$Alternative" "missing" "Ljava/lang/Boolean;" := slot_ne (Or.inr (hw _ (List.mem_of_getElem? (i := 59) rfl))) (Or.inr (hw _ (List.mem_of_getElem? (i := 61) rfl))) (by decide) pf_3 pf_8
theorem pn_com_example_operatory_operatory_fhir_SearchValue_Alternative : plainName "com/example/operatory/operatory/fhir/SearchValue$Alternative" = true := by first | (simp [plainName, overriddenIn]; done) | decide +kernel
theorem d_prog_5_method_6_code_0 : decode prog_5_method_6_code 0 = .ok (.new 8, 3) := by decide +kernel
theorem d_prog_5_method_6_code_3 : decode prog_5_method_6_code 3 = .ok (.dup, 1) := by decide +kernel
theorem d_prog_5_method_6_code_4 : decode prog_5_method_6_code 4 = .ok (.aload_n 0, 1) := by decide +kernel
theorem d_prog_5_method_6_code_5 : decode prog_5_method_6_code 5 = .ok (.aconst_null, 1) := by decide +kernel
theorem d_prog_5_method_6_code_6 : decode prog_5_method_6_code 6 = .ok (.aconst_null, 1) := by decide +kernel
theorem d_prog_5_method_6_code_7 : decode prog_5_method_6_code 7 = .ok (.aconst_null, 1) := by decide +kernel
theorem d_prog_5_method_6_code_8 : decode prog_5_method_6_code 8 = .ok (.aconst_null, 1) := by decide +kernel
theorem d_prog_5_method_6_code_9 : decode prog_5_method_6_code 9 = .ok (.aload_n 1, 1) := by decide +kernel
theorem d_prog_5_method_6_code_10 : decode prog_5_method_6_code 10 = .ok (.iload_n 2, 1) := by decide +kernel
theorem d_prog_5_method_6_code_11 : decode prog_5_method_6_code 11 = .ok (.aload_n 3, 1) := by decide +kernel
theorem d_prog_5_method_6_code_12 : decode prog_5_method_6_code 12 = .ok (.aload 4, 2) := by decide +kernel
theorem d_prog_5_method_6_code_14 : decode prog_5_method_6_code 14 = .ok (.aconst_null, 1) := by decide +kernel
theorem d_prog_5_method_6_code_15 : decode prog_5_method_6_code 15 = .ok (.aconst_null, 1) := by decide +kernel
theorem d_prog_5_method_6_code_16 : decode prog_5_method_6_code 16 = .ok (.aconst_null, 1) := by decide +kernel
theorem d_prog_5_method_6_code_17 : decode prog_5_method_6_code 17 = .ok (.aconst_null, 1) := by decide +kernel
theorem d_prog_5_method_6_code_18 : decode prog_5_method_6_code 18 = .ok (.invokespecial 54, 3) := by decide +kernel
theorem pd_3 : parseMethodDescriptor "(Ljava/lang/String;Lcom/example/operatory/operatory/fhir/SearchValue$Prefix;Ljava/math/BigDecimal;Ljava/lang/String;Lcom/example/operatory/operatory/fhir/SearchValue$Precision;Ljava/lang/String;ZLjava/lang/String;Ljava/lang/String;Ljava/lang/String;Ljava/lang/String;Ljava/lang/String;Ljava/lang/Boolean;)V" = some ⟨[(.object "java/lang/String"), (.object "com/example/operatory/operatory/fhir/SearchValue$Prefix"), (.object "java/math/BigDecimal"), (.object "java/lang/String"), (.object "com/example/operatory/operatory/fhir/SearchValue$Precision"), (.object "java/lang/String"), .boolean, (.object "java/lang/String"), (.object "java/lang/String"), (.object "java/lang/String"), (.object "java/lang/String"), (.object "java/lang/String"), (.object "java/lang/Boolean")], none⟩ := by decide +kernel
theorem d_prog_5_method_6_code_21 : decode prog_5_method_6_code 21 = .ok (.areturn, 1) := by decide +kernel
theorem d_prog_5_method_8_code_0 : decode prog_5_method_8_code 0 = .ok (.aload_n 0, 1) := by decide +kernel
theorem d_prog_5_method_8_code_1 : decode prog_5_method_8_code 1 = .ok (.getfield 7, 3) := by decide +kernel
theorem d_prog_5_method_8_code_4 : decode prog_5_method_8_code 4 = .ok (.areturn, 1) := by decide +kernel
theorem d_prog_5_method_13_code_0 : decode prog_5_method_13_code 0 = .ok (.aload_n 0, 1) := by decide +kernel
theorem d_prog_5_method_13_code_1 : decode prog_5_method_13_code 1 = .ok (.getfield 28, 3) := by decide +kernel
theorem d_prog_5_method_13_code_4 : decode prog_5_method_13_code 4 = .ok (.invokestatic 63, 3) := by decide +kernel
theorem pd_4 : parseMethodDescriptor "(Ljava/lang/Object;)Ljava/util/Optional;" = some ⟨[(.object "java/lang/Object")], some (.object "java/util/Optional")⟩ := by decide +kernel
theorem d_prog_5_method_13_code_7 : decode prog_5_method_13_code 7 = .ok (.areturn, 1) := by decide +kernel
theorem d_prog_5_method_15_code_0 : decode prog_5_method_15_code 0 = .ok (.aload_n 0, 1) := by decide +kernel
theorem d_prog_5_method_15_code_1 : decode prog_5_method_15_code 1 = .ok (.getfield 35, 3) := by decide +kernel
theorem d_prog_5_method_15_code_4 : decode prog_5_method_15_code 4 = .ok (.invokestatic 63, 3) := by decide +kernel
theorem d_prog_5_method_15_code_7 : decode prog_5_method_15_code 7 = .ok (.areturn, 1) := by decide +kernel
theorem d_prog_5_method_16_code_0 : decode prog_5_method_16_code 0 = .ok (.aload_n 0, 1) := by decide +kernel
theorem d_prog_5_method_16_code_1 : decode prog_5_method_16_code 1 = .ok (.getfield 38, 3) := by decide +kernel
theorem d_prog_5_method_16_code_4 : decode prog_5_method_16_code 4 = .ok (.invokestatic 63, 3) := by decide +kernel
theorem d_prog_5_method_16_code_7 : decode prog_5_method_16_code 7 = .ok (.areturn, 1) := by decide +kernel
theorem d_prog_5_method_9_code_0 : decode prog_5_method_9_code 0 = .ok (.aload_n 0, 1) := by decide +kernel
theorem d_prog_5_method_9_code_1 : decode prog_5_method_9_code 1 = .ok (.getfield 13, 3) := by decide +kernel
theorem d_prog_5_method_9_code_4 : decode prog_5_method_9_code 4 = .ok (.invokestatic 63, 3) := by decide +kernel
theorem d_prog_5_method_9_code_7 : decode prog_5_method_9_code 7 = .ok (.areturn, 1) := by decide +kernel
theorem d_prog_5_method_10_code_0 : decode prog_5_method_10_code 0 = .ok (.aload_n 0, 1) := by decide +kernel
theorem d_prog_5_method_10_code_1 : decode prog_5_method_10_code 1 = .ok (.getfield 17, 3) := by decide +kernel
theorem d_prog_5_method_10_code_4 : decode prog_5_method_10_code 4 = .ok (.invokestatic 63, 3) := by decide +kernel
theorem d_prog_5_method_10_code_7 : decode prog_5_method_10_code 7 = .ok (.areturn, 1) := by decide +kernel
theorem d_prog_5_method_17_code_0 : decode prog_5_method_17_code 0 = .ok (.aload_n 0, 1) := by decide +kernel
theorem d_prog_5_method_17_code_1 : decode prog_5_method_17_code 1 = .ok (.getfield 41, 3) := by decide +kernel
theorem d_prog_5_method_17_code_4 : decode prog_5_method_17_code 4 = .ok (.invokestatic 63, 3) := by decide +kernel
theorem d_prog_5_method_17_code_7 : decode prog_5_method_17_code 7 = .ok (.areturn, 1) := by decide +kernel
theorem d_prog_5_method_19_code_0 : decode prog_5_method_19_code 0 = .ok (.aload_n 0, 1) := by decide +kernel
theorem d_prog_5_method_19_code_1 : decode prog_5_method_19_code 1 = .ok (.getfield 47, 3) := by decide +kernel
theorem d_prog_5_method_19_code_4 : decode prog_5_method_19_code 4 = .ok (.invokestatic 63, 3) := by decide +kernel
theorem d_prog_5_method_19_code_7 : decode prog_5_method_19_code 7 = .ok (.areturn, 1) := by decide +kernel
theorem d_prog_5_method_20_code_0 : decode prog_5_method_20_code 0 = .ok (.aload_n 0, 1) := by decide +kernel
theorem d_prog_5_method_20_code_1 : decode prog_5_method_20_code 1 = .ok (.getfield 50, 3) := by decide +kernel
theorem d_prog_5_method_20_code_4 : decode prog_5_method_20_code 4 = .ok (.invokestatic 63, 3) := by decide +kernel
theorem d_prog_5_method_20_code_7 : decode prog_5_method_20_code 7 = .ok (.areturn, 1) := by decide +kernel
theorem d_prog_5_method_14_code_0 : decode prog_5_method_14_code 0 = .ok (.aload_n 0, 1) := by decide +kernel
theorem d_prog_5_method_14_code_1 : decode prog_5_method_14_code 1 = .ok (.getfield 31, 3) := by decide +kernel
theorem d_prog_5_method_14_code_4 : decode prog_5_method_14_code 4 = .ok (.ireturn, 1) := by decide +kernel
theorem pd_5 : parseMethodDescriptor "(I)Ljava/lang/String;" = some ⟨[.int], some (.object "java/lang/String")⟩ := by decide +kernel
theorem pd_6 : parseMethodDescriptor "(Ljava/lang/String;Ljava/lang/String;ZLjava/lang/String;Ljava/lang/String;)Lcom/example/operatory/operatory/fhir/SearchValue$Alternative;" = some ⟨[(.object "java/lang/String"), (.object "java/lang/String"), .boolean, (.object "java/lang/String"), (.object "java/lang/String")], some (.object "com/example/operatory/operatory/fhir/SearchValue$Alternative")⟩ := by decide +kernel
theorem pd_7 : parseMethodDescriptor "()Ljava/lang/String;" = some ⟨[], some (.object "java/lang/String")⟩ := by decide +kernel
theorem pd_8 : parseMethodDescriptor "()Ljava/util/Optional;" = some ⟨[], some (.object "java/util/Optional")⟩ := by decide +kernel
theorem pd_9 : parseMethodDescriptor "(Ljava/lang/Object;)Ljava/lang/Object;" = some ⟨[(.object "java/lang/Object")], some (.object "java/lang/Object")⟩ := by decide +kernel
theorem pd_10 : parseMethodDescriptor "()Z" = some ⟨[], some .boolean⟩ := by decide +kernel
def QrmSvE (Z : State) (a1 : Addr) (a2 : Addr) (h0 : Heap) (n0 : Nat) (v : Option Value) (h : Heap) (L : List Loc) : Prop := ∃ b : Addr, ∃ kb : ClassId, v = none ∧ Fr n0 L ∧ Keep h0 h [a1] ∧ (Exa Z h a1 "java/lang/String") ∧ (Fld Z h a1 "java/lang/String" "value" "[B" (.ref b)) ∧ (Fld Z h a1 "java/lang/String" "coder" "B" (.int (0 : Int32))) ∧ (Arv Z h b kb .byte (0 : Int32) [] (.int 0))
theorem ef_rmSvE (m : MethodId) (a1 : Addr) (a2 : Addr)  : entryFrame m #[(.ref a1), (.ref a2), (.int (0 : Int32)), (.int (0 : Int32)), .null] 6 = mkF m 0 #[.val (.ref a1), .val (.ref a2), .val (.int (0 : Int32)), .val (.int (0 : Int32)), .val .null, .unset] [] := by first | (simp [entryFrame, mkF, argsToLocals, maxLocals, Value.category]; done) | rfl
set_option maxRecDepth 65536 in
set_option maxHeartbeats 40000000 in
theorem rmSvE (l : Launch) (Z : State) (a0 : Array Value) (hw : ∀ d ∈ tables_1, d.before a0 Z = true) (ws : List Jvm.Cond) (a1 : Addr) (a2 : Addr) (h0 : Heap) (n0 : Nat) (Z0 : n0 ≤ h0.size) (G1 : Int32) (O2 : Sta Z Z.heap "java/lang/String" "COMPACT_STRINGS" "Z" (.int G1)) (P5 : ¬ (G1 = (0 : Int32))) (eA : Addr) (SE : Sta Z Z.heap "java/util/Optional" "EMPTY" "Ljava/util/Optional;" (.ref eA)) (XE : Exa Z Z.heap eA "java/util/Optional") (FE : Fld Z Z.heap eA "java/util/Optional" "value" "Ljava/lang/Object;" .null) (X00 : Old Z n0 h0) (p_Exa_a1 : Exa Z h0 a1 "java/lang/String") (p_Fld_a1_value : Fld Z h0 a1 "java/lang/String" "value" "[B" .null) (p_Fld_a1_coder : Fld Z h0 a1 "java/lang/String" "coder" "B" (.int (0 : Int32))) (ge1 : n0 ≤ a1) :
    MetFree l (⟨"java/lang/String", "<init>", "([CIILjava/lang/Void;)V"⟩ : MethodName) (head1 (Jvm.Cond.code (⟨"java/lang/String", "<init>", "([CIILjava/lang/Void;)V"⟩ : MethodName) jdk_42_method_149_code 6 (Option.none : Option Jvm.ClassFile.FieldType) :: ws) ({ frames := 1, cells := 2, slots := 4, locals := 12 } : Room)) (fun a U => a = #[(.ref a1), (.ref a2), (.int (0 : Int32)), (.int (0 : Int32)), .null] ∧ Z.Warmed39 U.vm ∧ U.heap = h0 ∧ CHv Z consts_1 U.vm h0) (fun _ _ _ _ _ => True) (fun _ U o U' => ∃ v L, o = .returned v ∧ QrmSvE Z a1 a2 h0 n0 v U'.heap L ∧ CHr Z consts_1 U.vm U.heap U'.vm U'.heap ∧ ReturnedEndW U o U' L ({ frames := 1, cells := 2, slots := 4, locals := 12 } : Room).cells ({ frames := 1, cells := 2, slots := 4, locals := 12 } : Room).slots) := by
  refine MetFree.of_bodySF (plainFor_of_name pn_java_lang_String) hisR ?_
  intro p e s m args below meth c s₁ Bd hml0 hP hK
  obtain ⟨rfl, hZ, hh, CH0⟩ := hP
  have hx := Bd.exec
  have hby := Bd.bytes
  have hml : c.maxLocals = 6 := hml0
  have hown : s.vm.findClass "java/lang/String" = some m.cls := findClass_of_methodNamed Bd.named
  have hnm := (name_of_methodNamed Bd.named Bd.method).1
  have hlk : meth.locks = false := BodyLoose.notSynchronized Bd
  have X0 : Stand p l e ({ frames := 1, cells := 2, slots := 4, locals := 12 } : Room) (s.setVm s.vm) m #[(.ref a1), (.ref a2), (.int (0 : Int32)), (.int (0 : Int32)), .null] below meth c s₁ [] 0 0 := Stand.of_body Bd
  have e0 : s₁.heap = h0 := by rw [← hh, Bd.state]; rfl
  have N0 := Fr.nil n0
  have hS0 : s.Since s.vm 0 := (State.WarmedH.refl s).since 0
  have CR0 : CHr Z consts_1 s.vm h0 s.vm h0 := CHr.refl CH0
  show Ends p.tables e below (fun o U' => ∃ v L, o = .returned v ∧ QrmSvE Z a1 a2 h0 n0 v U'.heap L ∧ CHr Z consts_1 s.vm s.heap U'.vm U'.heap ∧ ReturnedEndW s o U' L ({ frames := 1, cells := 2, slots := 4, locals := 12 } : Room).cells ({ frames := 1, cells := 2, slots := 4, locals := 12 } : Room).slots) (s₁.setTop (entryFrame m #[(.ref a1), (.ref a2), (.int (0 : Int32)), (.int (0 : Int32)), .null] 6))
  refine Ends.step (fun t k => castTop (ef_rmSvE m a1 a2 ) k) ?_
  show Ends _ _ _ _ (s₁.setTop (mkF m 0 #[.val (.ref a1), .val (.ref a2), .val (.int (0 : Int32)), .val (.int (0 : Int32)), .val .null, .unset] []))
  refine Ends.step (fun t k => XS.aloadN X0.here hx rfl (hb hby d_jdk_42_method_149_code_0) rfl rfl k) ?_
  show Ends _ _ _ _ (s₁.setTop (mkF m 1 #[.val (.ref a1), .val (.ref a2), .val (.int (0 : Int32)), .val (.int (0 : Int32)), .val .null, .unset] [(.ref a1)]))
  obtain ⟨T1, X1, e1, st1⟩ := initO X0 hx hZ hown (hw _ (List.mem_of_getElem? (i := 15) rfl)) (hw _ (List.mem_of_getElem? (i := 16) rfl)) (hw _ (List.mem_of_getElem? (i := 17) rfl)) e0 (g := (mkF m 1 #[.val (.ref a1), .val (.ref a2), .val (.int (0 : Int32)), .val (.int (0 : Int32)), .val .null, .unset] [(.ref a1)])) rfl (by rw [hml]; rfl) rfl (hb hby d_jdk_42_method_149_code_1) (by decide) (W := 0) (by show 2 * 0 + _ ≤ _; exact Nat.le_of_eq rfl) (by decide)
  refine Ends.step st1 ?_
  show Ends _ _ _ _ (T1.setTop (mkF m 4 #[.val (.ref a1), .val (.ref a2), .val (.int (0 : Int32)), .val (.int (0 : Int32)), .val .null, .unset] []))
  refine Ends.step (fun t k => XS.iloadN X1.here hx rfl (hb hby d_jdk_42_method_149_code_4) rfl k) ?_
  show Ends _ _ _ _ (T1.setTop (mkF m 5 #[.val (.ref a1), .val (.ref a2), .val (.int (0 : Int32)), .val (.int (0 : Int32)), .val .null, .unset] [(.int (0 : Int32))]))
  refine Ends.step (fun t k => XS.ifNo X1.here hx rfl (hb hby d_jdk_42_method_149_code_5) rfl ((if0 _ _).trans (teq (by decide : ((0 : Int32) = (0 : Int32)))).2) k) ?_
  show Ends _ _ _ _ (T1.setTop (mkF m 8 #[.val (.ref a1), .val (.ref a2), .val (.int (0 : Int32)), .val (.int (0 : Int32)), .val .null, .unset] []))
  refine Ends.step (fun t k => XS.aloadN X1.here hx rfl (hb hby d_jdk_42_method_149_code_8) rfl rfl k) ?_
  show Ends _ _ _ _ (T1.setTop (mkF m 9 #[.val (.ref a1), .val (.ref a2), .val (.int (0 : Int32)), .val (.int (0 : Int32)), .val .null, .unset] [(.ref a1)]))
  obtain ⟨s2, T2, h2, kk2, sb2, sk2, X2, e2, E2, hS2, hk2, hZ2, hown2, Ex2, Fc2, Fv2, Av2, la2, lb2, CRc2, Li2, Sf2, st2⟩ := ldcCH (s := s) (vm0 := s.vm) X1 hx hZ hown (hw _ (List.mem_of_getElem? (i := 18) rfl)) (own_wS hw) e1 hS0 (Nat.zero_le _) (own_hEL hw) (List.mem_of_getElem? (i := 0) rfl) CR0.1 (vs := []) (z := 0) (by decide +kernel) (by decide) rfl (g := (mkF m 9 #[.val (.ref a1), .val (.ref a2), .val (.int (0 : Int32)), .val (.int (0 : Int32)), .val .null, .unset] [(.ref a1)])) rfl (hb hby d_jdk_42_method_149_code_9) (n := 0) (by decide) (by decide) (by decide) (by decide)
  have CR2 := CR0.trans CRc2
  refine Ends.step st2 ?_
  show Ends _ _ _ _ (T2.setTop (mkF m 11 #[.val (.ref a1), .val (.ref a2), .val (.int (0 : Int32)), .val (.int (0 : Int32)), .val .null, .unset] [(.ref s2), (.ref a1)]))
  obtain ⟨T3, X3, e3, st3⟩ := getF X2 hx hZ2 hown2 (host := "") (Or.inl (hw _ (List.mem_of_getElem? (i := 24) rfl))) Via.refl e2 Fv2 (g := (mkF m 11 #[.val (.ref a1), .val (.ref a2), .val (.int (0 : Int32)), .val (.int (0 : Int32)), .val .null, .unset] [(.ref s2), (.ref a1)])) rfl rfl (hb hby d_jdk_42_method_149_code_11)
  refine Ends.step st3 ?_
  show Ends _ _ _ _ (T3.setTop (mkF m 14 #[.val (.ref a1), .val (.ref a2), .val (.int (0 : Int32)), .val (.int (0 : Int32)), .val .null, .unset] [(.ref sb2), (.ref a1)]))
  have F4 : Exa Z h2 a1 "java/lang/String" := (p_Exa_a1.ext E2)
  have F5 : Fld Z h2 a1 "java/lang/String" "value" "[B" .null := (p_Fld_a1_value.ext E2)
  obtain ⟨T6, h6, X6, e6, W6, st6⟩ := putF X3 hx hZ2 hown2 (host := "") (Or.inl (hw _ (List.mem_of_getElem? (i := 24) rfl))) Via.refl e3 F5 F4 (Or.inr ⟨(hw _ (List.mem_of_getElem? (i := 20) rfl)), rfl, hnm⟩) (hw _ (List.mem_of_getElem? (i := 5) rfl)) pf_0 rfl rfl (g := (mkF m 14 #[.val (.ref a1), .val (.ref a2), .val (.int (0 : Int32)), .val (.int (0 : Int32)), .val .null, .unset] [(.ref sb2), (.ref a1)])) rfl rfl (hb hby d_jdk_42_method_149_code_14)
  have N6 := Fr.snoc X6 N0 ge1
  have Fw6 : Fld Z h6 a1 "java/lang/String" "value" "[B" (.ref sb2) := F5.same W6
  refine Ends.step st6 ?_
  show Ends _ _ _ _ (T6.setTop (mkF m 17 #[.val (.ref a1), .val (.ref a2), .val (.int (0 : Int32)), .val (.int (0 : Int32)), .val .null, .unset] []))
  refine Ends.step (fun t k => XS.aloadN X6.here hx rfl (hb hby d_jdk_42_method_149_code_17) rfl rfl k) ?_
  show Ends _ _ _ _ (T6.setTop (mkF m 18 #[.val (.ref a1), .val (.ref a2), .val (.int (0 : Int32)), .val (.int (0 : Int32)), .val .null, .unset] [(.ref a1)]))
  refine Ends.step (fun t k => ldcAgain (s := s) (vm0 := T2.vm) X6 hx hZ2 hown2 (hw _ (List.mem_of_getElem? (i := 18) rfl)) Li2 (g := (mkF m 18 #[.val (.ref a1), .val (.ref a2), .val (.int (0 : Int32)), .val (.int (0 : Int32)), .val .null, .unset] [(.ref a1)])) rfl (hb hby d_jdk_42_method_149_code_18) _ k) ?_
  show Ends _ _ _ _ (T6.setTop (mkF m 20 #[.val (.ref a1), .val (.ref a2), .val (.int (0 : Int32)), .val (.int (0 : Int32)), .val .null, .unset] [(.ref s2), (.ref a1)]))
  have F7 : Fld Z h6 s2 "java/lang/String" "coder" "B" (.int (0 : Int32)) := (Fc2.other W6 (Or.inl (Ne.symm (Sf2 _ (own_safeBlank (State.Warmed39.alike hZ2) (p_Exa_a1.ext E2) (p_Fld_a1_value.ext E2))).1)))
  obtain ⟨T8, X8, e8, st8⟩ := getF X6 hx hZ2 hown2 (host := "") (Or.inl (hw _ (List.mem_of_getElem? (i := 25) rfl))) Via.refl e6 F7 (g := (mkF m 20 #[.val (.ref a1), .val (.ref a2), .val (.int (0 : Int32)), .val (.int (0 : Int32)), .val .null, .unset] [(.ref s2), (.ref a1)])) rfl rfl (hb hby d_jdk_42_method_149_code_20)
  refine Ends.step st8 ?_
  show Ends _ _ _ _ (T8.setTop (mkF m 23 #[.val (.ref a1), .val (.ref a2), .val (.int (0 : Int32)), .val (.int (0 : Int32)), .val .null, .unset] [(.int (0 : Int32)), (.ref a1)]))
  have F9 : Exa Z h6 a1 "java/lang/String" := (F4.wr W6)
  have F10 : Fld Z h6 a1 "java/lang/String" "coder" "B" (.int (0 : Int32)) := ((p_Fld_a1_coder.ext E2).other W6 (Or.inr (sn_java_lang_String_coder__value hw)))
  obtain ⟨T11, h11, X11, e11, W11, st11⟩ := putF X8 hx hZ2 hown2 (host := "") (Or.inl (hw _ (List.mem_of_getElem? (i := 25) rfl))) Via.refl e8 F10 F9 (Or.inr ⟨(hw _ (List.mem_of_getElem? (i := 21) rfl)), rfl, hnm⟩) (hw _ (List.mem_of_getElem? (i := 5) rfl)) pf_1 rfl rfl (g := (mkF m 23 #[.val (.ref a1), .val (.ref a2), .val (.int (0 : Int32)), .val (.int (0 : Int32)), .val .null, .unset] [(.int (0 : Int32)), (.ref a1)])) rfl rfl (hb hby d_jdk_42_method_149_code_23)
  have N11 := Fr.snoc X11 N6 ge1
  have Fw11 : Fld Z h11 a1 "java/lang/String" "coder" "B" (.int (0 : Int32)) := F10.same W11
  refine Ends.step st11 ?_
  show Ends _ _ _ _ (T11.setTop (mkF m 26 #[.val (.ref a1), .val (.ref a2), .val (.int (0 : Int32)), .val (.int (0 : Int32)), .val .null, .unset] []))
  have F12 : Exa Z h11 a1 "java/lang/String" := (F9.wr W11)
  have F13 : Fld Z h11 a1 "java/lang/String" "value" "[B" (.ref sb2) := (Fw6.other W11 (Or.inr (sn_java_lang_String_value__coder hw)))
  have F14 : Arv Z h11 sb2 sk2 .byte (0 : Int32) [] (.int 0) := ((Av2.other W6 (Ne.symm (Sf2 _ (own_safeBlank (State.Warmed39.alike hZ2) (p_Exa_a1.ext E2) (p_Fld_a1_value.ext E2))).2)).other W11 (Ne.symm (Sf2 _ (own_safeBlank (State.Warmed39.alike hZ2) (p_Exa_a1.ext E2) (p_Fld_a1_value.ext E2))).2))
  have SF16 := Safe.wr W6 (own_safeBlank (State.Warmed39.alike hZ2) (p_Exa_a1.ext E2) (p_Fld_a1_value.ext E2)) CR2.1 (own_safeBlank (State.Warmed39.alike hZ2) (p_Exa_a1.ext E2) (p_Fld_a1_value.ext E2))
  have CR15 := own_chrW CR2 W6 (own_safeBlank (State.Warmed39.alike hZ2) (p_Exa_a1.ext E2) (p_Fld_a1_value.ext E2))
  have SF18 := Safe.wr W11 SF16 CR15.1 SF16
  have CR17 := own_chrW CR15 W11 SF16
  exact own_finVW X11 hS2 hx hlk hh (own_hEL hw) (Nat.le_trans hk2 (Nat.le_trans (Nat.le_of_eq W6.size.symm) (Nat.le_of_eq W11.size.symm))) CR17 hZ2 Bd.returns (hb hby d_jdk_42_method_149_code_26) e11 ⟨sb2, sk2, rfl, N11, ((((Keep.refl h0 [a1]).ext E2).wr W6 (Or.inl (List.mem_of_getElem? (i := 0) rfl))).wr W11 (Or.inl (List.mem_of_getElem? (i := 0) rfl))), F12, F13, Fw11, F14⟩ (by decide) (by decide)
def QrmScE (Z : State) (a1 : Addr) (a2 : Addr) (kc : ClassId) (h0 : Heap) (n0 : Nat) (v : Option Value) (h : Heap) (L : List Loc) : Prop := ∃ b : Addr, ∃ kb : ClassId, v = none ∧ Fr n0 L ∧ Keep h0 h [a1] ∧ (Exa Z h a1 "java/lang/String") ∧ (Fld Z h a1 "java/lang/String" "value" "[B" (.ref b)) ∧ (Fld Z h a1 "java/lang/String" "coder" "B" (.int (0 : Int32))) ∧ (Arv Z h b kb .byte (0 : Int32) [] (.int 0))
theorem ef_rmScE (m : MethodId) (a1 : Addr) (a2 : Addr)  : entryFrame m #[(.ref a1), (.ref a2)] 2 = mkF m 0 #[.val (.ref a1), .val (.ref a2)] [] := by first | (simp [entryFrame, mkF, argsToLocals, maxLocals, Value.category]; done) | rfl
set_option maxRecDepth 65536 in
set_option maxHeartbeats 40000000 in
theorem rmScE (l : Launch) (Z : State) (a0 : Array Value) (hw : ∀ d ∈ tables_1, d.before a0 Z = true) (ws : List Jvm.Cond) (a1 : Addr) (a2 : Addr) (kc : ClassId) (h0 : Heap) (n0 : Nat) (Z0 : n0 ≤ h0.size) (G1 : Int32) (O2 : Sta Z Z.heap "java/lang/String" "COMPACT_STRINGS" "Z" (.int G1)) (P5 : ¬ (G1 = (0 : Int32))) (eA : Addr) (SE : Sta Z Z.heap "java/util/Optional" "EMPTY" "Ljava/util/Optional;" (.ref eA)) (XE : Exa Z Z.heap eA "java/util/Optional") (FE : Fld Z Z.heap eA "java/util/Optional" "value" "Ljava/lang/Object;" .null) (X00 : Old Z n0 h0) (p_Exa_a1 : Exa Z h0 a1 "java/lang/String") (p_Fld_a1_value : Fld Z h0 a1 "java/lang/String" "value" "[B" .null) (p_Fld_a1_coder : Fld Z h0 a1 "java/lang/String" "coder" "B" (.int (0 : Int32))) (ge1 : n0 ≤ a1) (p_Arv_a2 : Arv Z h0 a2 kc .char (0 : Int32) [] (.int (0 : Int32))) :
    MetFree l (⟨"java/lang/String", "<init>", "([C)V"⟩ : MethodName) (head1 (Jvm.Cond.code (⟨"java/lang/String", "<init>", "([C)V"⟩ : MethodName) jdk_42_method_3_code 2 (Option.none : Option Jvm.ClassFile.FieldType) :: ws) ({ frames := 2, cells := 2, slots := 4, locals := 29 } : Room)) (fun a U => a = #[(.ref a1), (.ref a2)] ∧ Z.Warmed39 U.vm ∧ U.heap = h0 ∧ CHv Z consts_1 U.vm h0) (fun _ _ _ _ _ => True) (fun _ U o U' => ∃ v L, o = .returned v ∧ QrmScE Z a1 a2 kc h0 n0 v U'.heap L ∧ CHr Z consts_1 U.vm U.heap U'.vm U'.heap ∧ ReturnedEndW U o U' L ({ frames := 2, cells := 2, slots := 4, locals := 29 } : Room).cells ({ frames := 2, cells := 2, slots := 4, locals := 29 } : Room).slots) := by
  refine MetFree.of_bodySF (plainFor_of_name pn_java_lang_String) hisR ?_
  intro p e s m args below meth c s₁ Bd hml0 hP hK
  obtain ⟨rfl, hZ, hh, CH0⟩ := hP
  have hx := Bd.exec
  have hby := Bd.bytes
  have hml : c.maxLocals = 2 := hml0
  have hown : s.vm.findClass "java/lang/String" = some m.cls := findClass_of_methodNamed Bd.named
  have hnm := (name_of_methodNamed Bd.named Bd.method).1
  have hlk : meth.locks = false := BodyLoose.notSynchronized Bd
  have X0 : Stand p l e ({ frames := 2, cells := 2, slots := 4, locals := 29 } : Room) (s.setVm s.vm) m #[(.ref a1), (.ref a2)] below meth c s₁ [] 0 0 := Stand.of_body Bd
  have e0 : s₁.heap = h0 := by rw [← hh, Bd.state]; rfl
  have N0 := Fr.nil n0
  have hS0 : s.Since s.vm 0 := (State.WarmedH.refl s).since 0
  have CR0 : CHr Z consts_1 s.vm h0 s.vm h0 := CHr.refl CH0
  show Ends p.tables e below (fun o U' => ∃ v L, o = .returned v ∧ QrmScE Z a1 a2 kc h0 n0 v U'.heap L ∧ CHr Z consts_1 s.vm s.heap U'.vm U'.heap ∧ ReturnedEndW s o U' L ({ frames := 2, cells := 2, slots := 4, locals := 29 } : Room).cells ({ frames := 2, cells := 2, slots := 4, locals := 29 } : Room).slots) (s₁.setTop (entryFrame m #[(.ref a1), (.ref a2)] 2))
  refine Ends.step (fun t k => castTop (ef_rmScE m a1 a2 ) k) ?_
  show Ends _ _ _ _ (s₁.setTop (mkF m 0 #[.val (.ref a1), .val (.ref a2)] []))
  refine Ends.step (fun t k => XS.aloadN X0.here hx rfl (hb hby d_jdk_42_method_3_code_0) rfl rfl k) ?_
  show Ends _ _ _ _ (s₁.setTop (mkF m 1 #[.val (.ref a1), .val (.ref a2)] [(.ref a1)]))
  refine Ends.step (fun t k => XS.aloadN X0.here hx rfl (hb hby d_jdk_42_method_3_code_1) rfl rfl k) ?_
  show Ends _ _ _ _ (s₁.setTop (mkF m 2 #[.val (.ref a1), .val (.ref a2)] [(.ref a2), (.ref a1)]))
  refine Ends.step (fun t k => XS.iconst X0.here hx rfl (hb hby d_jdk_42_method_3_code_2) k) ?_
  show Ends _ _ _ _ (s₁.setTop (mkF m 3 #[.val (.ref a1), .val (.ref a2)] [(.int (0 : Int32)), (.ref a2), (.ref a1)]))
  refine Ends.step (fun t k => XS.aloadN X0.here hx rfl (hb hby d_jdk_42_method_3_code_3) rfl rfl k) ?_
  show Ends _ _ _ _ (s₁.setTop (mkF m 4 #[.val (.ref a1), .val (.ref a2)] [(.ref a2), (.int (0 : Int32)), (.ref a2), (.ref a1)]))
  obtain ⟨cl1, Ar1, q1, S1, M1, H1, Gx1⟩ := p_Arv_a2
  have ln1 := len_of S1 M1
  refine Ends.step (fun t k => own_alen X0 hx hZ e0 Ar1 ln1 (g := (mkF m 4 #[.val (.ref a1), .val (.ref a2)] [(.ref a2), (.int (0 : Int32)), (.ref a2), (.ref a1)])) rfl rfl (hb hby d_jdk_42_method_3_code_4) k) ?_
  show Ends _ _ _ _ (s₁.setTop (mkF m 5 #[.val (.ref a1), .val (.ref a2)] [(.int (0 : Int32)), (.int (0 : Int32)), (.ref a2), (.ref a1)]))
  refine Ends.step (fun t k => XS.aconstNull X0.here hx rfl (hb hby d_jdk_42_method_3_code_5) k) ?_
  show Ends _ _ _ _ (s₁.setTop (mkF m 6 #[.val (.ref a1), .val (.ref a2)] [.null, (.int (0 : Int32)), (.int (0 : Int32)), (.ref a2), (.ref a1)]))
  obtain ⟨_, _, ⟨T2, L2, k2, n2⟩, -, Xs2, hs2, hg2, ⟨Lc2, hQ2, l2, y2, z2, CRc2⟩, st2⟩ := X0.specialBackS hx (y := (⟨"java/lang/String", "<init>", "([CIILjava/lang/Void;)V"⟩ : MethodName)) rfl hown (mvT hZ (hw _ (List.mem_of_getElem? (i := 11) rfl))) (mvT hZ (hw _ (List.mem_of_getElem? (i := 12) rfl))) (mvT hZ (hw _ (List.mem_of_getElem? (i := 14) rfl))) (by decide) (backOfSH (s := s) (vm0 := s.vm) (W := 0) (rmSvE l Z a0 hw [] a1 a2 h0 n0 Z0 G1 O2 P5 eA SE XE FE X00 p_Exa_a1 p_Fld_a1_value p_Fld_a1_coder ge1) hZ (hw _ (List.mem_of_getElem? (i := 14) rfl)) (hw _ (List.mem_of_getElem? (i := 6) rfl)) (by decide) (by decide) (own_hEL hw) CR0.1) (g := (mkF m 6 #[.val (.ref a1), .val (.ref a2)] [.null, (.int (0 : Int32)), (.int (0 : Int32)), (.ref a2), (.ref a1)])) rfl (by rw [hml]; rfl) (Steps.refl _) (a := a1) (argsL := [(.ref a2), (.int (0 : Int32)), (.int (0 : Int32)), .null]) (rest := []) (lenOf pd_0 rfl) rfl (by show 2 * 0 + _ ≤ _; exact Nat.le_of_eq rfl) (hb hby d_jdk_42_method_3_code_6) (fun _ _ => ⟨rfl, e0, (by decide : 0 + 2 ≤ _), (by decide : 0 + 4 ≤ _)⟩)
  dsimp only [Pt.U, Pt.locs, Pt.cells, Pt.slots] at Xs2 hs2 hg2 l2 y2 z2 st2 hQ2 CRc2
  subst l2 y2 z2
  obtain ⟨X2, hS2, hZ2, hown2⟩ := rebS hS0 (Nat.le_trans (Nat.zero_le _) (Nat.le_of_eq (congrArg Array.size (Eq.symm e0)))) Xs2 hs2 hg2 hZ hown
  have CR2 := CR0.trans CRc2
  obtain ⟨b_2, kb_2, rfl, Nq2, K2, f2_0, f2_1, f2_2, f2_3⟩ := hQ2
  have N2 := Fr.app N0 Nq2
  refine Ends.go st2 ?_
  show Ends _ _ _ _ (T2.setTop (mkF m 9 #[.val (.ref a1), .val (.ref a2)] []))
  exact own_finVW X2 hS2 hx hlk hh (own_hEL hw) (Nat.le_refl _) CR2 hZ2 Bd.returns (hb hby d_jdk_42_method_3_code_9) rfl ⟨b_2, kb_2, rfl, N2, ((Keep.refl h0 [a1]).trans K2 (allS (Or.inl (List.mem_of_getElem? (i := 0) rfl)) all0)), f2_0, f2_1, f2_2, f2_3⟩ (by decide) (by decide)
def QrmOpI (Z : State) (a1 : Addr) (v1 : Value) (h0 : Heap) (n0 : Nat) (v : Option Value) (h : Heap) (L : List Loc) : Prop := v = none ∧ Fr n0 L ∧ Keep h0 h [a1] ∧ (Exa Z h a1 "java/util/Optional") ∧ (Fld Z h a1 "java/util/Optional" "value" "Ljava/lang/Object;" v1)
theorem ef_rmOpI (m : MethodId) (a1 : Addr) (v1 : Value) (r_v1 : Value.isRef v1 = true) : entryFrame m #[(.ref a1), v1] 2 = mkF m 0 #[.val (.ref a1), .val v1] [] := by first | (simp [entryFrame, mkF, argsToLocals, maxLocals, own_cR, own_cI, own_cN, own_cJ, XT.cat1 r_v1]; done) | rfl
set_option maxRecDepth 65536 in
set_option maxHeartbeats 40000000 in
theorem rmOpI (l : Launch) (Z : State) (a0 : Array Value) (hw : ∀ d ∈ tables_1, d.before a0 Z = true) (ws : List Jvm.Cond) (a1 : Addr) (v1 : Value) (h0 : Heap) (n0 : Nat) (Z0 : n0 ≤ h0.size) (G1 : Int32) (O2 : Sta Z Z.heap "java/lang/String" "COMPACT_STRINGS" "Z" (.int G1)) (P5 : ¬ (G1 = (0 : Int32))) (eA : Addr) (SE : Sta Z Z.heap "java/util/Optional" "EMPTY" "Ljava/util/Optional;" (.ref eA)) (XE : Exa Z Z.heap eA "java/util/Optional") (FE : Fld Z Z.heap eA "java/util/Optional" "value" "Ljava/lang/Object;" .null) (X00 : Old Z n0 h0) (r_v1 : Value.isRef v1 = true) (p_Exa_a1 : Exa Z h0 a1 "java/util/Optional") (p_Fld_a1_value : Fld Z h0 a1 "java/util/Optional" "value" "Ljava/lang/Object;" .null) (ge1 : n0 ≤ a1) :
    MetFree l (⟨"java/util/Optional", "<init>", "(Ljava/lang/Object;)V"⟩ : MethodName) (head1 (Jvm.Cond.code (⟨"java/util/Optional", "<init>", "(Ljava/lang/Object;)V"⟩ : MethodName) jdk_32_method_2_code 2 (Option.none : Option Jvm.ClassFile.FieldType) :: ws) ({ frames := 1, cells := 0, slots := 0, locals := 12 } : Room)) (fun a U => a = #[(.ref a1), v1] ∧ Z.Warmed39 U.vm ∧ U.heap = h0) (fun _ _ _ _ _ => True) (fun _ U o U' => ∃ v L, o = .returned v ∧ QrmOpI Z a1 v1 h0 n0 v U'.heap L ∧ FrameEnd U o U' L ({ frames := 1, cells := 0, slots := 0, locals := 12 } : Room).cells ({ frames := 1, cells := 0, slots := 0, locals := 12 } : Room).slots) := by
  refine MetFree.of_bodySF (plainFor_of_name pn_java_util_Optional) hisR ?_
  intro p e s m args below meth c s₁ Bd hml0 hP hK
  obtain ⟨rfl, hZ, hh⟩ := hP
  have hx := Bd.exec
  have hby := Bd.bytes
  have hml : c.maxLocals = 2 := hml0
  have hown : s.vm.findClass "java/util/Optional" = some m.cls := findClass_of_methodNamed Bd.named
  have hnm := (name_of_methodNamed Bd.named Bd.method).1
  have hlk : meth.locks = false := BodyLoose.notSynchronized Bd
  have X0 : Stand p l e ({ frames := 1, cells := 0, slots := 0, locals := 12 } : Room) s m #[(.ref a1), v1] below meth c s₁ [] 0 0 := Stand.of_body Bd
  have e0 : s₁.heap = h0 := by rw [← hh, Bd.state]; rfl
  have N0 := Fr.nil n0
  show Ends p.tables e below (fun o U' => ∃ v L, o = .returned v ∧ QrmOpI Z a1 v1 h0 n0 v U'.heap L ∧ FrameEnd s o U' L ({ frames := 1, cells := 0, slots := 0, locals := 12 } : Room).cells ({ frames := 1, cells := 0, slots := 0, locals := 12 } : Room).slots) (s₁.setTop (entryFrame m #[(.ref a1), v1] 2))
  refine Ends.step (fun t k => castTop (ef_rmOpI m a1 v1 r_v1) k) ?_
  show Ends _ _ _ _ (s₁.setTop (mkF m 0 #[.val (.ref a1), .val v1] []))
  refine Ends.step (fun t k => XS.aloadN X0.here hx rfl (hb hby d_jdk_32_method_2_code_0) rfl rfl k) ?_
  show Ends _ _ _ _ (s₁.setTop (mkF m 1 #[.val (.ref a1), .val v1] [(.ref a1)]))
  obtain ⟨T1, X1, e1, st1⟩ := initO X0 hx hZ hown (hw _ (List.mem_of_getElem? (i := 82) rfl)) (hw _ (List.mem_of_getElem? (i := 16) rfl)) (hw _ (List.mem_of_getElem? (i := 17) rfl)) e0 (g := (mkF m 1 #[.val (.ref a1), .val v1] [(.ref a1)])) rfl (by rw [hml]; rfl) rfl (hb hby d_jdk_32_method_2_code_1) (by decide) (W := 0) (by show 2 * 0 + _ ≤ _; exact Nat.le_of_eq rfl) (by decide)
  refine Ends.step st1 ?_
  show Ends _ _ _ _ (T1.setTop (mkF m 4 #[.val (.ref a1), .val v1] []))
  refine Ends.step (fun t k => XS.aloadN X1.here hx rfl (hb hby d_jdk_32_method_2_code_4) rfl rfl k) ?_
  show Ends _ _ _ _ (T1.setTop (mkF m 5 #[.val (.ref a1), .val v1] [(.ref a1)]))
  refine Ends.step (fun t k => XS.aloadN X1.here hx rfl (hb hby d_jdk_32_method_2_code_5) rfl r_v1 k) ?_
  show Ends _ _ _ _ (T1.setTop (mkF m 6 #[.val (.ref a1), .val v1] [v1, (.ref a1)]))
  obtain ⟨T2, h2, X2, e2, W2, st2⟩ := putF X1 hx hZ hown (host := "") (Or.inl (hw _ (List.mem_of_getElem? (i := 83) rfl))) Via.refl e1 p_Fld_a1_value p_Exa_a1 (Or.inr ⟨(hw _ (List.mem_of_getElem? (i := 84) rfl)), rfl, hnm⟩) (hw _ (List.mem_of_getElem? (i := 77) rfl)) pf_2 (own_narrow_ref r_v1 rfl) (own_fits_ref r_v1 rfl) (g := (mkF m 6 #[.val (.ref a1), .val v1] [v1, (.ref a1)])) rfl rfl (hb hby d_jdk_32_method_2_code_6)
  have N2 := Fr.snoc X2 N0 ge1
  have Fw2 : Fld Z h2 a1 "java/util/Optional" "value" "Ljava/lang/Object;" v1 := p_Fld_a1_value.same W2
  refine Ends.step st2 ?_
  show Ends _ _ _ _ (T2.setTop (mkF m 9 #[.val (.ref a1), .val v1] []))
  have F3 : Exa Z h2 a1 "java/util/Optional" := (p_Exa_a1.wr W2)
  exact own_finV X2 hx hlk Bd.returns (hb hby d_jdk_32_method_2_code_9) e2 (K := _) ⟨rfl, N2, ((Keep.refl h0 [a1]).wr W2 (Or.inl (List.mem_of_getElem? (i := 0) rfl))), F3, Fw2⟩ (by decide) (by decide)
def QrmOpNn (Z : State) (eA : Addr) (h0 : Heap) (n0 : Nat) (v : Option Value) (h : Heap) (L : List Loc) : Prop := v = some (.ref eA) ∧ Fr n0 L ∧ h = h0
theorem ef_rmOpNn (m : MethodId)   : entryFrame m #[.null] 1 = mkF m 0 #[.val .null] [] := by first | (simp [entryFrame, mkF, argsToLocals, maxLocals, Value.category]; done) | rfl
set_option maxRecDepth 65536 in
set_option maxHeartbeats 40000000 in
theorem rmOpNn (l : Launch) (Z : State) (a0 : Array Value) (hw : ∀ d ∈ tables_1, d.before a0 Z = true) (ws : List Jvm.Cond)  (h0 : Heap) (n0 : Nat) (Z0 : n0 ≤ h0.size) (G1 : Int32) (O2 : Sta Z Z.heap "java/lang/String" "COMPACT_STRINGS" "Z" (.int G1)) (P5 : ¬ (G1 = (0 : Int32))) (eA : Addr) (SE : Sta Z Z.heap "java/util/Optional" "EMPTY" "Ljava/util/Optional;" (.ref eA)) (XE : Exa Z Z.heap eA "java/util/Optional") (FE : Fld Z Z.heap eA "java/util/Optional" "value" "Ljava/lang/Object;" .null) (X00 : Old Z n0 h0)  :
    MetFree l (⟨"java/util/Optional", "ofNullable", "(Ljava/lang/Object;)Ljava/util/Optional;"⟩ : MethodName) (head1 (Jvm.Cond.code (⟨"java/util/Optional", "ofNullable", "(Ljava/lang/Object;)Ljava/util/Optional;"⟩ : MethodName) jdk_32_method_4_code 1 (Option.some (Jvm.ClassFile.FieldType.object "java/util/Optional")) :: ws) ({ frames := 0, cells := 0, slots := 0, locals := 0 } : Room)) (fun a U => a = #[.null] ∧ Z.Warmed39 U.vm ∧ U.heap = h0) (fun _ _ _ _ _ => True) (fun _ U o U' => ∃ v L, o = .returned v ∧ QrmOpNn Z eA h0 n0 v U'.heap L ∧ FrameEnd U o U' L ({ frames := 0, cells := 0, slots := 0, locals := 0 } : Room).cells ({ frames := 0, cells := 0, slots := 0, locals := 0 } : Room).slots) := by
  refine MetFree.of_bodySF (plainFor_of_name pn_java_util_Optional) hisR ?_
  intro p e s m args below meth c s₁ Bd hml0 hP hK
  obtain ⟨rfl, hZ, hh⟩ := hP
  have hx := Bd.exec
  have hby := Bd.bytes
  have hml : c.maxLocals = 1 := hml0
  have hown : s.vm.findClass "java/util/Optional" = some m.cls := findClass_of_methodNamed Bd.named
  have hnm := (name_of_methodNamed Bd.named Bd.method).1
  have hlk : meth.locks = false := BodyLoose.notSynchronized Bd
  have X0 : Stand p l e ({ frames := 0, cells := 0, slots := 0, locals := 0 } : Room) s m #[.null] below meth c s₁ [] 0 0 := Stand.of_body Bd
  have e0 : s₁.heap = h0 := by rw [← hh, Bd.state]; rfl
  have N0 := Fr.nil n0
  show Ends p.tables e below (fun o U' => ∃ v L, o = .returned v ∧ QrmOpNn Z eA h0 n0 v U'.heap L ∧ FrameEnd s o U' L ({ frames := 0, cells := 0, slots := 0, locals := 0 } : Room).cells ({ frames := 0, cells := 0, slots := 0, locals := 0 } : Room).slots) (s₁.setTop (entryFrame m #[.null] 1))
  refine Ends.step (fun t k => castTop (ef_rmOpNn m  ) k) ?_
  show Ends _ _ _ _ (s₁.setTop (mkF m 0 #[.val .null] []))
  refine Ends.step (fun t k => XS.aloadN X0.here hx rfl (hb hby d_jdk_32_method_4_code_0) rfl rfl k) ?_
  show Ends _ _ _ _ (s₁.setTop (mkF m 1 #[.val .null] [.null]))
  refine Ends.step (fun t k => XS.ifnonnullNo X0.here hx rfl (hb hby d_jdk_32_method_4_code_1) rfl k) ?_
  show Ends _ _ _ _ (s₁.setTop (mkF m 4 #[.val .null] []))
  obtain ⟨T1, X1, e1, st1⟩ := getS (host := "") X0 hx hZ hown (hw _ (List.mem_of_getElem? (i := 110) rfl)) Via.refl e0 (SE.ext X00.2) (g := (mkF m 4 #[.val .null] [])) rfl (hb hby d_jdk_32_method_4_code_4)
  refine Ends.step st1 ?_
  show Ends _ _ _ _ (T1.setTop (mkF m 7 #[.val .null] [(.ref eA)]))
  refine Ends.step (fun t k => XS.goto X1.here hx rfl (pc0 := 7) (pc' := 18) rfl (hb hby d_jdk_32_method_4_code_7) (by decide) (by decide) k) ?_
  show Ends _ _ _ _ (T1.setTop (mkF m 18 #[.val .null] [(.ref eA)]))
  exact own_finR X1 hx hlk Bd.returns rfl rfl (hb hby d_jdk_32_method_4_code_18) e1 ⟨rfl, N0, rfl⟩ (by decide) (by decide)
def QrmOpNr (Z : State) (a1 : Addr) (h0 : Heap) (n0 : Nat) (v : Option Value) (h : Heap) (L : List Loc) : Prop := ∃ x : Addr, v = some (.ref x) ∧ Fr n0 L ∧ Keep h0 h [] ∧ (h0.size ≤ x) ∧ (Exa Z h x "java/util/Optional") ∧ (Fld Z h x "java/util/Optional" "value" "Ljava/lang/Object;" (.ref a1))
theorem ef_rmOpNr (m : MethodId) (a1 : Addr)  : entryFrame m #[(.ref a1)] 1 = mkF m 0 #[.val (.ref a1)] [] := by first | (simp [entryFrame, mkF, argsToLocals, maxLocals, Value.category]; done) | rfl
set_option maxRecDepth 65536 in
set_option maxHeartbeats 40000000 in
theorem rmOpNr (l : Launch) (Z : State) (a0 : Array Value) (hw : ∀ d ∈ tables_1, d.before a0 Z = true) (ws : List Jvm.Cond) (a1 : Addr) (h0 : Heap) (n0 : Nat) (Z0 : n0 ≤ h0.size) (G1 : Int32) (O2 : Sta Z Z.heap "java/lang/String" "COMPACT_STRINGS" "Z" (.int G1)) (P5 : ¬ (G1 = (0 : Int32))) (eA : Addr) (SE : Sta Z Z.heap "java/util/Optional" "EMPTY" "Ljava/util/Optional;" (.ref eA)) (XE : Exa Z Z.heap eA "java/util/Optional") (FE : Fld Z Z.heap eA "java/util/Optional" "value" "Ljava/lang/Object;" .null) (X00 : Old Z n0 h0)  :
    MetFree l (⟨"java/util/Optional", "ofNullable", "(Ljava/lang/Object;)Ljava/util/Optional;"⟩ : MethodName) (head1 (Jvm.Cond.code (⟨"java/util/Optional", "ofNullable", "(Ljava/lang/Object;)Ljava/util/Optional;"⟩ : MethodName) jdk_32_method_4_code 1 (Option.some (Jvm.ClassFile.FieldType.object "java/util/Optional")) :: ws) ({ frames := 2, cells := 1, slots := 1, locals := 26 } : Room)) (fun a U => a = #[(.ref a1)] ∧ Z.Warmed39 U.vm ∧ U.heap = h0) (fun _ _ _ _ _ => True) (fun _ U o U' => ∃ v L, o = .returned v ∧ QrmOpNr Z a1 h0 n0 v U'.heap L ∧ FrameEnd U o U' L ({ frames := 2, cells := 1, slots := 1, locals := 26 } : Room).cells ({ frames := 2, cells := 1, slots := 1, locals := 26 } : Room).slots) := by
  refine MetFree.of_bodySF (plainFor_of_name pn_java_util_Optional) hisR ?_
  intro p e s m args below meth c s₁ Bd hml0 hP hK
  obtain ⟨rfl, hZ, hh⟩ := hP
  have hx := Bd.exec
  have hby := Bd.bytes
  have hml : c.maxLocals = 1 := hml0
  have hown : s.vm.findClass "java/util/Optional" = some m.cls := findClass_of_methodNamed Bd.named
  have hnm := (name_of_methodNamed Bd.named Bd.method).1
  have hlk : meth.locks = false := BodyLoose.notSynchronized Bd
  have X0 : Stand p l e ({ frames := 2, cells := 1, slots := 1, locals := 26 } : Room) s m #[(.ref a1)] below meth c s₁ [] 0 0 := Stand.of_body Bd
  have e0 : s₁.heap = h0 := by rw [← hh, Bd.state]; rfl
  have N0 := Fr.nil n0
  show Ends p.tables e below (fun o U' => ∃ v L, o = .returned v ∧ QrmOpNr Z a1 h0 n0 v U'.heap L ∧ FrameEnd s o U' L ({ frames := 2, cells := 1, slots := 1, locals := 26 } : Room).cells ({ frames := 2, cells := 1, slots := 1, locals := 26 } : Room).slots) (s₁.setTop (entryFrame m #[(.ref a1)] 1))
  refine Ends.step (fun t k => castTop (ef_rmOpNr m a1 ) k) ?_
  show Ends _ _ _ _ (s₁.setTop (mkF m 0 #[.val (.ref a1)] []))
  refine Ends.step (fun t k => XS.aloadN X0.here hx rfl (hb hby d_jdk_32_method_4_code_0) rfl rfl k) ?_
  show Ends _ _ _ _ (s₁.setTop (mkF m 1 #[.val (.ref a1)] [(.ref a1)]))
  refine Ends.step (fun t k => XS.ifnonnullYes X0.here hx rfl (pc0 := 1) (pc' := 10) rfl (hb hby d_jdk_32_method_4_code_1) rfl (by decide) (by decide) k) ?_
  show Ends _ _ _ _ (s₁.setTop (mkF m 10 #[.val (.ref a1)] []))
  obtain ⟨T1, h1, X1, e1, E1, A1, D1, -, st1⟩ := newO X0 hx hZ hown (hw _ (List.mem_of_getElem? (i := 76) rfl)) (hw _ (List.mem_of_getElem? (i := 77) rfl)) (hw _ (List.mem_of_getElem? (i := 74) rfl)) e0 (g := (mkF m 10 #[.val (.ref a1)] [])) rfl (hb hby d_jdk_32_method_4_code_10) (by decide) (by decide)
  obtain ⟨b1, g1⟩ : ∃ z, z = h0.size := ⟨_, rfl⟩
  rw [← g1] at A1 D1 st1
  refine Ends.step st1 ?_
  show Ends _ _ _ _ (T1.setTop (mkF m 13 #[.val (.ref a1)] [(.ref b1)]))
  refine Ends.step (fun t k => XS.dup X1.here hx rfl (hb hby d_jdk_32_method_4_code_13) rfl rfl k) ?_
  show Ends _ _ _ _ (T1.setTop (mkF m 14 #[.val (.ref a1)] [(.ref b1), (.ref b1)]))
  refine Ends.step (fun t k => XS.aloadN X1.here hx rfl (hb hby d_jdk_32_method_4_code_14) rfl rfl k) ?_
  show Ends _ _ _ _ (T1.setTop (mkF m 15 #[.val (.ref a1)] [(.ref a1), (.ref b1), (.ref b1)]))
  have F2 : Old Z n0 h1 := (X00.ext E1)
  obtain ⟨_, _, ⟨T3, L3, k3, n3⟩, -, X3, ⟨Lc3, hQ3, l3, y3, z3⟩, st3⟩ := X1.specialBack hx (y := (⟨"java/util/Optional", "<init>", "(Ljava/lang/Object;)V"⟩ : MethodName)) rfl hown (mvT hZ (hw _ (List.mem_of_getElem? (i := 78) rfl))) (mvT hZ (hw _ (List.mem_of_getElem? (i := 79) rfl))) (mvT hZ (hw _ (List.mem_of_getElem? (i := 81) rfl))) (by decide) (backOf (W := 1) (rmOpI l Z a0 hw [] b1 (.ref a1) h1 n0 (Nat.le_trans Z0 E1.1) G1 O2 P5 eA SE XE FE F2 rfl A1 (D1 (Or.inr (hw _ (List.mem_of_getElem? (i := 84) rfl))) pf_2) (Nat.le_trans (Nat.le_trans Z0 (Nat.le_refl _)) (Nat.le_of_eq g1.symm))) hZ (hw _ (List.mem_of_getElem? (i := 81) rfl)) (hw _ (List.mem_of_getElem? (i := 74) rfl)) (by decide) (by decide)) (g := (mkF m 15 #[.val (.ref a1)] [(.ref a1), (.ref b1), (.ref b1)])) rfl (by rw [hml]; rfl) (Steps.refl _) (a := b1) (argsL := [(.ref a1)]) (rest := [(.ref b1)]) (lenOf pd_1 rfl) rfl (by show 2 * 0 + _ ≤ _; exact Nat.le_of_eq rfl) (hb hby d_jdk_32_method_4_code_15) (fun _ _ => ⟨rfl, e1, (by decide : 1 + 0 ≤ _), (by decide : 1 + 0 ≤ _)⟩)
  dsimp only [Pt.U, Pt.locs, Pt.cells, Pt.slots] at X3 l3 y3 z3 st3 hQ3
  subst l3 y3 z3
  obtain ⟨rfl, Nq3, K3, f3_0, f3_1⟩ := hQ3
  have N3 := Fr.app N0 Nq3
  refine Ends.go st3 ?_
  have K4 : Keep h0 T3.heap [] := (((Keep.refl h0 []).ext E1).trans K3 (allS (Or.inr (Nat.le_trans (Nat.le_refl _) (Nat.le_of_eq g1.symm))) all0))
  show Ends _ _ _ _ (T3.setTop (mkF m 18 #[.val (.ref a1)] [(.ref b1)]))
  exact own_finR X3 hx hlk Bd.returns rfl rfl (hb hby d_jdk_32_method_4_code_18) rfl ⟨b1, rfl, N3, ((Keep.refl h0 []).trans K4 all0), (Nat.le_trans (Nat.le_refl _) (Nat.le_of_eq g1.symm)), f3_0, f3_1⟩ (by decide) (by decide)
def QrmOpNg (Z : State) (v1 : Value) (h0 : Heap) (n0 : Nat) (v : Option Value) (h : Heap) (L : List Loc) : Prop := ∃ x : Addr, v = some (.ref x) ∧ Fr n0 L ∧ Keep h0 h [] ∧ (Exa Z h x "java/util/Optional") ∧ (Fld Z h x "java/util/Optional" "value" "Ljava/lang/Object;" v1)
theorem ef_rmOpNg (m : MethodId) (v1 : Value) (r_v1 : Value.isRef v1 = true) : entryFrame m #[v1] 1 = mkF m 0 #[.val v1] [] := by first | (simp [entryFrame, mkF, argsToLocals, maxLocals, own_cR, own_cI, own_cN, own_cJ, XT.cat1 r_v1]; done) | rfl
set_option maxRecDepth 65536 in
set_option maxHeartbeats 40000000 in
theorem rmOpNg (l : Launch) (Z : State) (a0 : Array Value) (hw : ∀ d ∈ tables_1, d.before a0 Z = true) (ws : List Jvm.Cond) (v1 : Value) (h0 : Heap) (n0 : Nat) (Z0 : n0 ≤ h0.size) (G1 : Int32) (O2 : Sta Z Z.heap "java/lang/String" "COMPACT_STRINGS" "Z" (.int G1)) (P5 : ¬ (G1 = (0 : Int32))) (eA : Addr) (SE : Sta Z Z.heap "java/util/Optional" "EMPTY" "Ljava/util/Optional;" (.ref eA)) (XE : Exa Z Z.heap eA "java/util/Optional") (FE : Fld Z Z.heap eA "java/util/Optional" "value" "Ljava/lang/Object;" .null) (X00 : Old Z n0 h0) (r_v1 : Value.isRef v1 = true) :
    MetFree l (⟨"java/util/Optional", "ofNullable", "(Ljava/lang/Object;)Ljava/util/Optional;"⟩ : MethodName) (head1 (Jvm.Cond.code (⟨"java/util/Optional", "ofNullable", "(Ljava/lang/Object;)Ljava/util/Optional;"⟩ : MethodName) jdk_32_method_4_code 1 (Option.some (Jvm.ClassFile.FieldType.object "java/util/Optional")) :: ws) ({ frames := 2, cells := 1, slots := 1, locals := 26 } : Room)) (fun a U => a = #[v1] ∧ Z.Warmed39 U.vm ∧ U.heap = h0) (fun _ _ _ _ _ => True) (fun _ U o U' => ∃ v L, o = .returned v ∧ QrmOpNg Z v1 h0 n0 v U'.heap L ∧ FrameEnd U o U' L ({ frames := 2, cells := 1, slots := 1, locals := 26 } : Room).cells ({ frames := 2, cells := 1, slots := 1, locals := 26 } : Room).slots) := by
  refine MetFree.of_bodySF (plainFor_of_name pn_java_util_Optional) hisR ?_
  intro p e s m args below meth c s₁ Bd hml0 hP hK
  obtain ⟨rfl, hZ, hh⟩ := hP
  have hx := Bd.exec
  have hby := Bd.bytes
  have hml : c.maxLocals = 1 := hml0
  have hown : s.vm.findClass "java/util/Optional" = some m.cls := findClass_of_methodNamed Bd.named
  have hnm := (name_of_methodNamed Bd.named Bd.method).1
  have hlk : meth.locks = false := BodyLoose.notSynchronized Bd
  have X0 : Stand p l e ({ frames := 2, cells := 1, slots := 1, locals := 26 } : Room) s m #[v1] below meth c s₁ [] 0 0 := Stand.of_body Bd
  have e0 : s₁.heap = h0 := by rw [← hh, Bd.state]; rfl
  have N0 := Fr.nil n0
  show Ends p.tables e below (fun o U' => ∃ v L, o = .returned v ∧ QrmOpNg Z v1 h0 n0 v U'.heap L ∧ FrameEnd s o U' L ({ frames := 2, cells := 1, slots := 1, locals := 26 } : Room).cells ({ frames := 2, cells := 1, slots := 1, locals := 26 } : Room).slots) (s₁.setTop (entryFrame m #[v1] 1))
  refine Ends.step (fun t k => castTop (ef_rmOpNg m v1 r_v1) k) ?_
  show Ends _ _ _ _ (s₁.setTop (mkF m 0 #[.val v1] []))
  refine Ends.step (fun t k => XS.aloadN X0.here hx rfl (hb hby d_jdk_32_method_4_code_0) rfl r_v1 k) ?_
  show Ends _ _ _ _ (s₁.setTop (mkF m 1 #[.val v1] [v1]))
  rcases XT.refc r_v1 with rfl | ⟨ac1, rfl⟩
  · refine Ends.step (fun t k => XS.ifnonnullNo X0.here hx rfl (hb hby d_jdk_32_method_4_code_1) rfl k) ?_
    show Ends _ _ _ _ (s₁.setTop (mkF m 4 #[.val .null] []))
    obtain ⟨T2, X2, e2, st2⟩ := getS (host := "") X0 hx hZ hown (hw _ (List.mem_of_getElem? (i := 110) rfl)) Via.refl e0 (SE.ext X00.2) (g := (mkF m 4 #[.val .null] [])) rfl (hb hby d_jdk_32_method_4_code_4)
    refine Ends.step st2 ?_
    show Ends _ _ _ _ (T2.setTop (mkF m 7 #[.val .null] [(.ref eA)]))
    refine Ends.step (fun t k => XS.goto X2.here hx rfl (pc0 := 7) (pc' := 18) rfl (hb hby d_jdk_32_method_4_code_7) (by decide) (by decide) k) ?_
    show Ends _ _ _ _ (T2.setTop (mkF m 18 #[.val .null] [(.ref eA)]))
    exact own_finR X2 hx hlk Bd.returns rfl rfl (hb hby d_jdk_32_method_4_code_18) e2 ⟨eA, rfl, N0, (Keep.refl h0 []), (XE.ext X00.2), (FE.ext X00.2)⟩ (by decide) (by decide)
  · refine Ends.step (fun t k => XS.ifnonnullYes X0.here hx rfl (pc0 := 1) (pc' := 10) rfl (hb hby d_jdk_32_method_4_code_1) rfl (by decide) (by decide) k) ?_
    show Ends _ _ _ _ (s₁.setTop (mkF m 10 #[.val (.ref ac1)] []))
    obtain ⟨T3, h3, X3, e3, E3, A3, D3, -, st3⟩ := newO X0 hx hZ hown (hw _ (List.mem_of_getElem? (i := 76) rfl)) (hw _ (List.mem_of_getElem? (i := 77) rfl)) (hw _ (List.mem_of_getElem? (i := 74) rfl)) e0 (g := (mkF m 10 #[.val (.ref ac1)] [])) rfl (hb hby d_jdk_32_method_4_code_10) (by decide) (by decide)
    obtain ⟨b3, g3⟩ : ∃ z, z = h0.size := ⟨_, rfl⟩
    rw [← g3] at A3 D3 st3
    refine Ends.step st3 ?_
    show Ends _ _ _ _ (T3.setTop (mkF m 13 #[.val (.ref ac1)] [(.ref b3)]))
    refine Ends.step (fun t k => XS.dup X3.here hx rfl (hb hby d_jdk_32_method_4_code_13) rfl rfl k) ?_
    show Ends _ _ _ _ (T3.setTop (mkF m 14 #[.val (.ref ac1)] [(.ref b3), (.ref b3)]))
    refine Ends.step (fun t k => XS.aloadN X3.here hx rfl (hb hby d_jdk_32_method_4_code_14) rfl rfl k) ?_
    show Ends _ _ _ _ (T3.setTop (mkF m 15 #[.val (.ref ac1)] [(.ref ac1), (.ref b3), (.ref b3)]))
    have F4 : Old Z n0 h3 := (X00.ext E3)
    obtain ⟨_, _, ⟨T5, L5, k5, n5⟩, -, X5, ⟨Lc5, hQ5, l5, y5, z5⟩, st5⟩ := X3.specialBack hx (y := (⟨"java/util/Optional", "<init>", "(Ljava/lang/Object;)V"⟩ : MethodName)) rfl hown (mvT hZ (hw _ (List.mem_of_getElem? (i := 78) rfl))) (mvT hZ (hw _ (List.mem_of_getElem? (i := 79) rfl))) (mvT hZ (hw _ (List.mem_of_getElem? (i := 81) rfl))) (by decide) (backOf (W := 1) (rmOpI l Z a0 hw [] b3 (.ref ac1) h3 n0 (Nat.le_trans Z0 E3.1) G1 O2 P5 eA SE XE FE F4 rfl A3 (D3 (Or.inr (hw _ (List.mem_of_getElem? (i := 84) rfl))) pf_2) (Nat.le_trans (Nat.le_trans Z0 (Nat.le_refl _)) (Nat.le_of_eq g3.symm))) hZ (hw _ (List.mem_of_getElem? (i := 81) rfl)) (hw _ (List.mem_of_getElem? (i := 74) rfl)) (by decide) (by decide)) (g := (mkF m 15 #[.val (.ref ac1)] [(.ref ac1), (.ref b3), (.ref b3)])) rfl (by rw [hml]; rfl) (Steps.refl _) (a := b3) (argsL := [(.ref ac1)]) (rest := [(.ref b3)]) (lenOf pd_1 rfl) rfl (by show 2 * 0 + _ ≤ _; exact Nat.le_of_eq rfl) (hb hby d_jdk_32_method_4_code_15) (fun _ _ => ⟨rfl, e3, (by decide : 1 + 0 ≤ _), (by decide : 1 + 0 ≤ _)⟩)
    dsimp only [Pt.U, Pt.locs, Pt.cells, Pt.slots] at X5 l5 y5 z5 st5 hQ5
    subst l5 y5 z5
    obtain ⟨rfl, Nq5, K5, f5_0, f5_1⟩ := hQ5
    have N5 := Fr.app N0 Nq5
    refine Ends.go st5 ?_
    have K6 : Keep h0 T5.heap [] := (((Keep.refl h0 []).ext E3).trans K5 (allS (Or.inr (Nat.le_trans (Nat.le_refl _) (Nat.le_of_eq g3.symm))) all0))
    show Ends _ _ _ _ (T5.setTop (mkF m 18 #[.val (.ref ac1)] [(.ref b3)]))
    exact own_finR X5 hx hlk Bd.returns rfl rfl (hb hby d_jdk_32_method_4_code_18) rfl ⟨b3, rfl, N5, ((Keep.refl h0 []).trans K6 all0), f5_0, f5_1⟩ (by decide) (by decide)
def QrmOpElG (Z : State) (a1 : Addr) (v1 : Value) (h0 : Heap) (n0 : Nat) (v : Option Value) (h : Heap) (L : List Loc) : Prop := v = some v1 ∧ Fr n0 L ∧ h = h0
theorem ef_rmOpElG (m : MethodId) (a1 : Addr)  : entryFrame m #[(.ref a1), .null] 2 = mkF m 0 #[.val (.ref a1), .val .null] [] := by first | (simp [entryFrame, mkF, argsToLocals, maxLocals, Value.category]; done) | rfl
set_option maxRecDepth 65536 in
set_option maxHeartbeats 40000000 in
theorem rmOpElG (l : Launch) (Z : State) (a0 : Array Value) (hw : ∀ d ∈ tables_1, d.before a0 Z = true) (ws : List Jvm.Cond) (a1 : Addr) (v1 : Value) (h0 : Heap) (n0 : Nat) (Z0 : n0 ≤ h0.size) (G1 : Int32) (O2 : Sta Z Z.heap "java/lang/String" "COMPACT_STRINGS" "Z" (.int G1)) (P5 : ¬ (G1 = (0 : Int32))) (eA : Addr) (SE : Sta Z Z.heap "java/util/Optional" "EMPTY" "Ljava/util/Optional;" (.ref eA)) (XE : Exa Z Z.heap eA "java/util/Optional") (FE : Fld Z Z.heap eA "java/util/Optional" "value" "Ljava/lang/Object;" .null) (X00 : Old Z n0 h0) (p_Fld_a1_value : Fld Z h0 a1 "java/util/Optional" "value" "Ljava/lang/Object;" v1) (r_v1 : Value.isRef v1 = true) :
    MetFree l (⟨"java/util/Optional", "orElse", "(Ljava/lang/Object;)Ljava/lang/Object;"⟩ : MethodName) (head1 (Jvm.Cond.code (⟨"java/util/Optional", "orElse", "(Ljava/lang/Object;)Ljava/lang/Object;"⟩ : MethodName) jdk_32_method_15_code 2 (Option.some (Jvm.ClassFile.FieldType.object "java/lang/Object")) :: ws) ({ frames := 0, cells := 0, slots := 0, locals := 0 } : Room)) (fun a U => a = #[(.ref a1), .null] ∧ Z.Warmed39 U.vm ∧ U.heap = h0) (fun _ _ _ _ _ => True) (fun _ U o U' => ∃ v L, o = .returned v ∧ QrmOpElG Z a1 v1 h0 n0 v U'.heap L ∧ FrameEnd U o U' L ({ frames := 0, cells := 0, slots := 0, locals := 0 } : Room).cells ({ frames := 0, cells := 0, slots := 0, locals := 0 } : Room).slots) := by
  refine MetFree.of_bodySF (plainFor_of_name pn_java_util_Optional) hisR ?_
  intro p e s m args below meth c s₁ Bd hml0 hP hK
  obtain ⟨rfl, hZ, hh⟩ := hP
  have hx := Bd.exec
  have hby := Bd.bytes
  have hml : c.maxLocals = 2 := hml0
  have hown : s.vm.findClass "java/util/Optional" = some m.cls := findClass_of_methodNamed Bd.named
  have hnm := (name_of_methodNamed Bd.named Bd.method).1
  have hlk : meth.locks = false := BodyLoose.notSynchronized Bd
  have X0 : Stand p l e ({ frames := 0, cells := 0, slots := 0, locals := 0 } : Room) s m #[(.ref a1), .null] below meth c s₁ [] 0 0 := Stand.of_body Bd
  have e0 : s₁.heap = h0 := by rw [← hh, Bd.state]; rfl
  have N0 := Fr.nil n0
  show Ends p.tables e below (fun o U' => ∃ v L, o = .returned v ∧ QrmOpElG Z a1 v1 h0 n0 v U'.heap L ∧ FrameEnd s o U' L ({ frames := 0, cells := 0, slots := 0, locals := 0 } : Room).cells ({ frames := 0, cells := 0, slots := 0, locals := 0 } : Room).slots) (s₁.setTop (entryFrame m #[(.ref a1), .null] 2))
  refine Ends.step (fun t k => castTop (ef_rmOpElG m a1 ) k) ?_
  show Ends _ _ _ _ (s₁.setTop (mkF m 0 #[.val (.ref a1), .val .null] []))
  refine Ends.step (fun t k => XS.aloadN X0.here hx rfl (hb hby d_jdk_32_method_15_code_0) rfl rfl k) ?_
  show Ends _ _ _ _ (s₁.setTop (mkF m 1 #[.val (.ref a1), .val .null] [(.ref a1)]))
  obtain ⟨T1, X1, e1, st1⟩ := getF X0 hx hZ hown (host := "") (Or.inl (hw _ (List.mem_of_getElem? (i := 83) rfl))) Via.refl e0 p_Fld_a1_value (g := (mkF m 1 #[.val (.ref a1), .val .null] [(.ref a1)])) rfl rfl (hb hby d_jdk_32_method_15_code_1)
  refine Ends.step st1 ?_
  show Ends _ _ _ _ (T1.setTop (mkF m 4 #[.val (.ref a1), .val .null] [v1]))
  rcases XT.refc r_v1 with rfl | ⟨ac2, rfl⟩
  · refine Ends.step (fun t k => XS.ifnullYes X1.here hx rfl (pc0 := 4) (pc' := 14) rfl (hb hby d_jdk_32_method_15_code_4) rfl (by decide) (by decide) k) ?_
    show Ends _ _ _ _ (T1.setTop (mkF m 14 #[.val (.ref a1), .val .null] []))
    refine Ends.step (fun t k => XS.aloadN X1.here hx rfl (hb hby d_jdk_32_method_15_code_14) rfl rfl k) ?_
    show Ends _ _ _ _ (T1.setTop (mkF m 15 #[.val (.ref a1), .val .null] [.null]))
    exact own_finR X1 hx hlk Bd.returns rfl rfl (hb hby d_jdk_32_method_15_code_15) e1 ⟨rfl, N0, rfl⟩ (by decide) (by decide)
  · refine Ends.step (fun t k => XS.ifnullNo X1.here hx rfl (hb hby d_jdk_32_method_15_code_4) rfl k) ?_
    show Ends _ _ _ _ (T1.setTop (mkF m 7 #[.val (.ref a1), .val .null] []))
    refine Ends.step (fun t k => XS.aloadN X1.here hx rfl (hb hby d_jdk_32_method_15_code_7) rfl rfl k) ?_
    show Ends _ _ _ _ (T1.setTop (mkF m 8 #[.val (.ref a1), .val .null] [(.ref a1)]))
    obtain ⟨T3, X3, e3, st3⟩ := getF X1 hx hZ hown (host := "") (Or.inl (hw _ (List.mem_of_getElem? (i := 83) rfl))) Via.refl e1 p_Fld_a1_value (g := (mkF m 8 #[.val (.ref a1), .val .null] [(.ref a1)])) rfl rfl (hb hby d_jdk_32_method_15_code_8)
    refine Ends.step st3 ?_
    show Ends _ _ _ _ (T3.setTop (mkF m 11 #[.val (.ref a1), .val .null] [(.ref ac2)]))
    refine Ends.step (fun t k => XS.goto X3.here hx rfl (pc0 := 11) (pc' := 15) rfl (hb hby d_jdk_32_method_15_code_11) (by decide) (by decide) k) ?_
    show Ends _ _ _ _ (T3.setTop (mkF m 15 #[.val (.ref a1), .val .null] [(.ref ac2)]))
    exact own_finR X3 hx hlk Bd.returns rfl rfl (hb hby d_jdk_32_method_15_code_15) e3 ⟨rfl, N0, rfl⟩ (by decide) (by decide)
def QrmOpElN (Z : State) (a1 : Addr) (h0 : Heap) (n0 : Nat) (v : Option Value) (h : Heap) (L : List Loc) : Prop := v = some .null ∧ Fr n0 L ∧ h = h0
theorem ef_rmOpElN (m : MethodId) (a1 : Addr)  : entryFrame m #[(.ref a1), .null] 2 = mkF m 0 #[.val (.ref a1), .val .null] [] := by first | (simp [entryFrame, mkF, argsToLocals, maxLocals, Value.category]; done) | rfl
set_option maxRecDepth 65536 in
set_option maxHeartbeats 40000000 in
theorem rmOpElN (l : Launch) (Z : State) (a0 : Array Value) (hw : ∀ d ∈ tables_1, d.before a0 Z = true) (ws : List Jvm.Cond) (a1 : Addr) (h0 : Heap) (n0 : Nat) (Z0 : n0 ≤ h0.size) (G1 : Int32) (O2 : Sta Z Z.heap "java/lang/String" "COMPACT_STRINGS" "Z" (.int G1)) (P5 : ¬ (G1 = (0 : Int32))) (eA : Addr) (SE : Sta Z Z.heap "java/util/Optional" "EMPTY" "Ljava/util/Optional;" (.ref eA)) (XE : Exa Z Z.heap eA "java/util/Optional") (FE : Fld Z Z.heap eA "java/util/Optional" "value" "Ljava/lang/Object;" .null) (X00 : Old Z n0 h0) (p_Fld_a1_value : Fld Z h0 a1 "java/util/Optional" "value" "Ljava/lang/Object;" .null) :
    MetFree l (⟨"java/util/Optional", "orElse", "(Ljava/lang/Object;)Ljava/lang/Object;"⟩ : MethodName) (head1 (Jvm.Cond.code (⟨"java/util/Optional", "orElse", "(Ljava/lang/Object;)Ljava/lang/Object;"⟩ : MethodName) jdk_32_method_15_code 2 (Option.some (Jvm.ClassFile.FieldType.object "java/lang/Object")) :: ws) ({ frames := 0, cells := 0, slots := 0, locals := 0 } : Room)) (fun a U => a = #[(.ref a1), .null] ∧ Z.Warmed39 U.vm ∧ U.heap = h0) (fun _ _ _ _ _ => True) (fun _ U o U' => ∃ v L, o = .returned v ∧ QrmOpElN Z a1 h0 n0 v U'.heap L ∧ FrameEnd U o U' L ({ frames := 0, cells := 0, slots := 0, locals := 0 } : Room).cells ({ frames := 0, cells := 0, slots := 0, locals := 0 } : Room).slots) := by
  refine MetFree.of_bodySF (plainFor_of_name pn_java_util_Optional) hisR ?_
  intro p e s m args below meth c s₁ Bd hml0 hP hK
  obtain ⟨rfl, hZ, hh⟩ := hP
  have hx := Bd.exec
  have hby := Bd.bytes
  have hml : c.maxLocals = 2 := hml0
  have hown : s.vm.findClass "java/util/Optional" = some m.cls := findClass_of_methodNamed Bd.named
  have hnm := (name_of_methodNamed Bd.named Bd.method).1
  have hlk : meth.locks = false := BodyLoose.notSynchronized Bd
  have X0 : Stand p l e ({ frames := 0, cells := 0, slots := 0, locals := 0 } : Room) s m #[(.ref a1), .null] below meth c s₁ [] 0 0 := Stand.of_body Bd
  have e0 : s₁.heap = h0 := by rw [← hh, Bd.state]; rfl
  have N0 := Fr.nil n0
  show Ends p.tables e below (fun o U' => ∃ v L, o = .returned v ∧ QrmOpElN Z a1 h0 n0 v U'.heap L ∧ FrameEnd s o U' L ({ frames := 0, cells := 0, slots := 0, locals := 0 } : Room).cells ({ frames := 0, cells := 0, slots := 0, locals := 0 } : Room).slots) (s₁.setTop (entryFrame m #[(.ref a1), .null] 2))
  refine Ends.step (fun t k => castTop (ef_rmOpElN m a1 ) k) ?_
  show Ends _ _ _ _ (s₁.setTop (mkF m 0 #[.val (.ref a1), .val .null] []))
  refine Ends.step (fun t k => XS.aloadN X0.here hx rfl (hb hby d_jdk_32_method_15_code_0) rfl rfl k) ?_
  show Ends _ _ _ _ (s₁.setTop (mkF m 1 #[.val (.ref a1), .val .null] [(.ref a1)]))
  obtain ⟨T1, X1, e1, st1⟩ := getF X0 hx hZ hown (host := "") (Or.inl (hw _ (List.mem_of_getElem? (i := 83) rfl))) Via.refl e0 p_Fld_a1_value (g := (mkF m 1 #[.val (.ref a1), .val .null] [(.ref a1)])) rfl rfl (hb hby d_jdk_32_method_15_code_1)
  refine Ends.step st1 ?_
  show Ends _ _ _ _ (T1.setTop (mkF m 4 #[.val (.ref a1), .val .null] [.null]))
  refine Ends.step (fun t k => XS.ifnullYes X1.here hx rfl (pc0 := 4) (pc' := 14) rfl (hb hby d_jdk_32_method_15_code_4) rfl (by decide) (by decide) k) ?_
  show Ends _ _ _ _ (T1.setTop (mkF m 14 #[.val (.ref a1), .val .null] []))
  refine Ends.step (fun t k => XS.aloadN X1.here hx rfl (hb hby d_jdk_32_method_15_code_14) rfl rfl k) ?_
  show Ends _ _ _ _ (T1.setTop (mkF m 15 #[.val (.ref a1), .val .null] [.null]))
  exact own_finR X1 hx hlk Bd.returns rfl rfl (hb hby d_jdk_32_method_15_code_15) e1 ⟨rfl, N0, rfl⟩ (by decide) (by decide)
def QrmOpElR (Z : State) (a1 : Addr) (a2 : Addr) (h0 : Heap) (n0 : Nat) (v : Option Value) (h : Heap) (L : List Loc) : Prop := v = some (.ref a2) ∧ Fr n0 L ∧ h = h0
theorem ef_rmOpElR (m : MethodId) (a1 : Addr)  : entryFrame m #[(.ref a1), .null] 2 = mkF m 0 #[.val (.ref a1), .val .null] [] := by first | (simp [entryFrame, mkF, argsToLocals, maxLocals, Value.category]; done) | rfl
set_option maxRecDepth 65536 in
set_option maxHeartbeats 40000000 in
theorem rmOpElR (l : Launch) (Z : State) (a0 : Array Value) (hw : ∀ d ∈ tables_1, d.before a0 Z = true) (ws : List Jvm.Cond) (a1 : Addr) (a2 : Addr) (h0 : Heap) (n0 : Nat) (Z0 : n0 ≤ h0.size) (G1 : Int32) (O2 : Sta Z Z.heap "java/lang/String" "COMPACT_STRINGS" "Z" (.int G1)) (P5 : ¬ (G1 = (0 : Int32))) (eA : Addr) (SE : Sta Z Z.heap "java/util/Optional" "EMPTY" "Ljava/util/Optional;" (.ref eA)) (XE : Exa Z Z.heap eA "java/util/Optional") (FE : Fld Z Z.heap eA "java/util/Optional" "value" "Ljava/lang/Object;" .null) (X00 : Old Z n0 h0) (p_Fld_a1_value : Fld Z h0 a1 "java/util/Optional" "value" "Ljava/lang/Object;" (.ref a2)) :
    MetFree l (⟨"java/util/Optional", "orElse", "(Ljava/lang/Object;)Ljava/lang/Object;"⟩ : MethodName) (head1 (Jvm.Cond.code (⟨"java/util/Optional", "orElse", "(Ljava/lang/Object;)Ljava/lang/Object;"⟩ : MethodName) jdk_32_method_15_code 2 (Option.some (Jvm.ClassFile.FieldType.object "java/lang/Object")) :: ws) ({ frames := 0, cells := 0, slots := 0, locals := 0 } : Room)) (fun a U => a = #[(.ref a1), .null] ∧ Z.Warmed39 U.vm ∧ U.heap = h0) (fun _ _ _ _ _ => True) (fun _ U o U' => ∃ v L, o = .returned v ∧ QrmOpElR Z a1 a2 h0 n0 v U'.heap L ∧ FrameEnd U o U' L ({ frames := 0, cells := 0, slots := 0, locals := 0 } : Room).cells ({ frames := 0, cells := 0, slots := 0, locals := 0 } : Room).slots) := by
  refine MetFree.of_bodySF (plainFor_of_name pn_java_util_Optional) hisR ?_
  intro p e s m args below meth c s₁ Bd hml0 hP hK
  obtain ⟨rfl, hZ, hh⟩ := hP
  have hx := Bd.exec
  have hby := Bd.bytes
  have hml : c.maxLocals = 2 := hml0
  have hown : s.vm.findClass "java/util/Optional" = some m.cls := findClass_of_methodNamed Bd.named
  have hnm := (name_of_methodNamed Bd.named Bd.method).1
  have hlk : meth.locks = false := BodyLoose.notSynchronized Bd
  have X0 : Stand p l e ({ frames := 0, cells := 0, slots := 0, locals := 0 } : Room) s m #[(.ref a1), .null] below meth c s₁ [] 0 0 := Stand.of_body Bd
  have e0 : s₁.heap = h0 := by rw [← hh, Bd.state]; rfl
  have N0 := Fr.nil n0
  show Ends p.tables e below (fun o U' => ∃ v L, o = .returned v ∧ QrmOpElR Z a1 a2 h0 n0 v U'.heap L ∧ FrameEnd s o U' L ({ frames := 0, cells := 0, slots := 0, locals := 0 } : Room).cells ({ frames := 0, cells := 0, slots := 0, locals := 0 } : Room).slots) (s₁.setTop (entryFrame m #[(.ref a1), .null] 2))
  refine Ends.step (fun t k => castTop (ef_rmOpElR m a1 ) k) ?_
  show Ends _ _ _ _ (s₁.setTop (mkF m 0 #[.val (.ref a1), .val .null] []))
  refine Ends.step (fun t k => XS.aloadN X0.here hx rfl (hb hby d_jdk_32_method_15_code_0) rfl rfl k) ?_
  show Ends _ _ _ _ (s₁.setTop (mkF m 1 #[.val (.ref a1), .val .null] [(.ref a1)]))
  obtain ⟨T1, X1, e1, st1⟩ := getF X0 hx hZ hown (host := "") (Or.inl (hw _ (List.mem_of_getElem? (i := 83) rfl))) Via.refl e0 p_Fld_a1_value (g := (mkF m 1 #[.val (.ref a1), .val .null] [(.ref a1)])) rfl rfl (hb hby d_jdk_32_method_15_code_1)
  refine Ends.step st1 ?_
  show Ends _ _ _ _ (T1.setTop (mkF m 4 #[.val (.ref a1), .val .null] [(.ref a2)]))
  refine Ends.step (fun t k => XS.ifnullNo X1.here hx rfl (hb hby d_jdk_32_method_15_code_4) rfl k) ?_
  show Ends _ _ _ _ (T1.setTop (mkF m 7 #[.val (.ref a1), .val .null] []))
  refine Ends.step (fun t k => XS.aloadN X1.here hx rfl (hb hby d_jdk_32_method_15_code_7) rfl rfl k) ?_
  show Ends _ _ _ _ (T1.setTop (mkF m 8 #[.val (.ref a1), .val .null] [(.ref a1)]))
  obtain ⟨T2, X2, e2, st2⟩ := getF X1 hx hZ hown (host := "") (Or.inl (hw _ (List.mem_of_getElem? (i := 83) rfl))) Via.refl e1 p_Fld_a1_value (g := (mkF m 8 #[.val (.ref a1), .val .null] [(.ref a1)])) rfl rfl (hb hby d_jdk_32_method_15_code_8)
  refine Ends.step st2 ?_
  show Ends _ _ _ _ (T2.setTop (mkF m 11 #[.val (.ref a1), .val .null] [(.ref a2)]))
  refine Ends.step (fun t k => XS.goto X2.here hx rfl (pc0 := 11) (pc' := 15) rfl (hb hby d_jdk_32_method_15_code_11) (by decide) (by decide) k) ?_
  show Ends _ _ _ _ (T2.setTop (mkF m 15 #[.val (.ref a1), .val .null] [(.ref a2)]))
  exact own_finR X2 hx hlk Bd.returns rfl rfl (hb hby d_jdk_32_method_15_code_15) e2 ⟨rfl, N0, rfl⟩ (by decide) (by decide)
def QrmStr (Z : State) (p1 : Int32) (h0 : Heap) (n0 : Nat) (v : Option Value) (h : Heap) (L : List Loc) : Prop := ∃ x : Addr, v = some (.ref x) ∧ Fr n0 L ∧ Keep h0 h [] ∧ (h0.size ≤ x) ∧ (Exa Z h x "java/lang/String")
theorem ef_rmStr (m : MethodId) (p1 : Int32)  : entryFrame m #[(.int p1)] 4 = mkF m 0 #[.val (.int p1), .unset, .unset, .unset] [] := by first | (simp [entryFrame, mkF, argsToLocals, maxLocals, Value.category]; done) | rfl
set_option maxRecDepth 65536 in
set_option maxHeartbeats 40000000 in
theorem rmStr (l : Launch) (Z : State) (a0 : Array Value) (hw : ∀ d ∈ tables_1, d.before a0 Z = true) (ws : List Jvm.Cond) (p1 : Int32) (h0 : Heap) (n0 : Nat) (Z0 : n0 ≤ h0.size) (G1 : Int32) (O2 : Sta Z Z.heap "java/lang/String" "COMPACT_STRINGS" "Z" (.int G1)) (P5 : ¬ (G1 = (0 : Int32))) (eA : Addr) (SE : Sta Z Z.heap "java/util/Optional" "EMPTY" "Ljava/util/Optional;" (.ref eA)) (XE : Exa Z Z.heap eA "java/util/Optional") (FE : Fld Z Z.heap eA "java/util/Optional" "value" "Ljava/lang/Object;" .null) (X00 : Old Z n0 h0)  :
    MetFree l (⟨"com/example/operatory/operatory/fhir/AlternativeOfTokenPinLaw", "str", "(I)Ljava/lang/String;"⟩ : MethodName) (head1 (Jvm.Cond.code (⟨"com/example/operatory/operatory/fhir/AlternativeOfTokenPinLaw", "str", "(I)Ljava/lang/String;"⟩ : MethodName) method_2_code 4 (Option.some (Jvm.ClassFile.FieldType.object "java/lang/String")) :: ws) ({ frames := 4, cells := 4, slots := 8, locals := 66 } : Room)) (fun a U => a = #[(.int p1)] ∧ Z.Warmed39 U.vm ∧ U.heap = h0 ∧ CHv Z consts_1 U.vm h0) (fun _ _ _ _ _ => True) (fun _ U o U' => ∃ v L, o = .returned v ∧ QrmStr Z p1 h0 n0 v U'.heap L ∧ CHr Z consts_1 U.vm U.heap U'.vm U'.heap ∧ ReturnedEndW U o U' L ({ frames := 4, cells := 4, slots := 8, locals := 66 } : Room).cells ({ frames := 4, cells := 4, slots := 8, locals := 66 } : Room).slots) := by
  refine MetFree.of_bodySF (plainFor_of_name pn_com_example_operatory_operatory_fhir_AlternativeOfTokenPinLaw) hisR ?_
  intro p e s m args below meth c s₁ Bd hml0 hP hK
  obtain ⟨rfl, hZ, hh, CH0⟩ := hP
  have hx := Bd.exec
  have hby := Bd.bytes
  have hml : c.maxLocals = 4 := hml0
  have hown : s.vm.findClass "com/example/operatory/operatory/fhir/AlternativeOfTokenPinLaw" = some m.cls := findClass_of_methodNamed Bd.named
  have hnm := (name_of_methodNamed Bd.named Bd.method).1
  have hlk : meth.locks = false := BodyLoose.notSynchronized Bd
  have X0 : Stand p l e ({ frames := 4, cells := 4, slots := 8, locals := 66 } : Room) (s.setVm s.vm) m #[(.int p1)] below meth c s₁ [] 0 0 := Stand.of_body Bd
  have e0 : s₁.heap = h0 := by rw [← hh, Bd.state]; rfl
  have N0 := Fr.nil n0
  have hS0 : s.Since s.vm 0 := (State.WarmedH.refl s).since 0
  have CR0 : CHr Z consts_1 s.vm h0 s.vm h0 := CHr.refl CH0
  show Ends p.tables e below (fun o U' => ∃ v L, o = .returned v ∧ QrmStr Z p1 h0 n0 v U'.heap L ∧ CHr Z consts_1 s.vm s.heap U'.vm U'.heap ∧ ReturnedEndW s o U' L ({ frames := 4, cells := 4, slots := 8, locals := 66 } : Room).cells ({ frames := 4, cells := 4, slots := 8, locals := 66 } : Room).slots) (s₁.setTop (entryFrame m #[(.int p1)] 4))
  refine Ends.step (fun t k => castTop (ef_rmStr m p1 ) k) ?_
  show Ends _ _ _ _ (s₁.setTop (mkF m 0 #[.val (.int p1), .unset, .unset, .unset] []))
  refine Ends.step (fun t k => XS.iloadN X0.here hx rfl (hb hby d_method_2_code_0) rfl k) ?_
  show Ends _ _ _ _ (s₁.setTop (mkF m 1 #[.val (.int p1), .unset, .unset, .unset] [(.int p1)]))
  refine Ends.step (fun t k => XS.sipush X0.here hx rfl (hb hby d_method_2_code_1) k) ?_
  show Ends _ _ _ _ (s₁.setTop (mkF m 4 #[.val (.int p1), .unset, .unset, .unset] [(.int (255 : Int32)), (.int p1)]))
  refine Ends.step (fun t k => XS.iand X0.here hx rfl (hb hby d_method_2_code_4) rfl k) ?_
  show Ends _ _ _ _ (s₁.setTop (mkF m 5 #[.val (.int p1), .unset, .unset, .unset] [(.int (p1 &&& (255 : Int32)))]))
  refine Ends.step (fun t k => XS.i2c X0.here hx rfl (hb hby d_method_2_code_5) rfl k) ?_
  show Ends _ _ _ _ (s₁.setTop (mkF m 6 #[.val (.int p1), .unset, .unset, .unset] [(.int ((p1 &&& (255 : Int32)).toUInt32.toUInt16.toUInt32.toInt32))]))
  refine Ends.step (fun t k => XS.istoreN X0.here hx rfl (hb hby d_method_2_code_6) rfl (l' := #[.val (.int p1), .val (.int ((p1 &&& (255 : Int32)).toUInt32.toUInt16.toUInt32.toInt32)), .unset, .unset]) rfl k) ?_
  show Ends _ _ _ _ (s₁.setTop (mkF m 7 #[.val (.int p1), .val (.int ((p1 &&& (255 : Int32)).toUInt32.toUInt16.toUInt32.toInt32)), .unset, .unset] []))
  refine Ends.step (fun t k => XS.iloadN X0.here hx rfl (hb hby d_method_2_code_7) rfl k) ?_
  show Ends _ _ _ _ (s₁.setTop (mkF m 8 #[.val (.int p1), .val (.int ((p1 &&& (255 : Int32)).toUInt32.toUInt16.toUInt32.toInt32)), .unset, .unset] [(.int p1)]))
  refine Ends.step (fun t k => XS.bipush X0.here hx rfl (hb hby d_method_2_code_8) k) ?_
  show Ends _ _ _ _ (s₁.setTop (mkF m 10 #[.val (.int p1), .val (.int ((p1 &&& (255 : Int32)).toUInt32.toUInt16.toUInt32.toInt32)), .unset, .unset] [(.int (8 : Int32)), (.int p1)]))
  refine Ends.step (fun t k => XS.iushr X0.here hx rfl (hb hby d_method_2_code_10) rfl k) ?_
  show Ends _ _ _ _ (s₁.setTop (mkF m 11 #[.val (.int p1), .val (.int ((p1 &&& (255 : Int32)).toUInt32.toUInt16.toUInt32.toInt32)), .unset, .unset] [(.int ((p1.toUInt32 >>> ((8 : Int32) &&& 31).toUInt32).toInt32))]))
  refine Ends.step (fun t k => XS.sipush X0.here hx rfl (hb hby d_method_2_code_11) k) ?_
  show Ends _ _ _ _ (s₁.setTop (mkF m 14 #[.val (.int p1), .val (.int ((p1 &&& (255 : Int32)).toUInt32.toUInt16.toUInt32.toInt32)), .unset, .unset] [(.int (255 : Int32)), (.int ((p1.toUInt32 >>> ((8 : Int32) &&& 31).toUInt32).toInt32))]))
  refine Ends.step (fun t k => XS.iand X0.here hx rfl (hb hby d_method_2_code_14) rfl k) ?_
  show Ends _ _ _ _ (s₁.setTop (mkF m 15 #[.val (.int p1), .val (.int ((p1 &&& (255 : Int32)).toUInt32.toUInt16.toUInt32.toInt32)), .unset, .unset] [(.int (((p1.toUInt32 >>> ((8 : Int32) &&& 31).toUInt32).toInt32) &&& (255 : Int32)))]))
  refine Ends.step (fun t k => XS.i2c X0.here hx rfl (hb hby d_method_2_code_15) rfl k) ?_
  show Ends _ _ _ _ (s₁.setTop (mkF m 16 #[.val (.int p1), .val (.int ((p1 &&& (255 : Int32)).toUInt32.toUInt16.toUInt32.toInt32)), .unset, .unset] [(.int ((((p1.toUInt32 >>> ((8 : Int32) &&& 31).toUInt32).toInt32) &&& (255 : Int32)).toUInt32.toUInt16.toUInt32.toInt32))]))
  refine Ends.step (fun t k => XS.istoreN X0.here hx rfl (hb hby d_method_2_code_16) rfl (l' := #[.val (.int p1), .val (.int ((p1 &&& (255 : Int32)).toUInt32.toUInt16.toUInt32.toInt32)), .val (.int ((((p1.toUInt32 >>> ((8 : Int32) &&& 31).toUInt32).toInt32) &&& (255 : Int32)).toUInt32.toUInt16.toUInt32.toInt32)), .unset]) rfl k) ?_
  show Ends _ _ _ _ (s₁.setTop (mkF m 17 #[.val (.int p1), .val (.int ((p1 &&& (255 : Int32)).toUInt32.toUInt16.toUInt32.toInt32)), .val (.int ((((p1.toUInt32 >>> ((8 : Int32) &&& 31).toUInt32).toInt32) &&& (255 : Int32)).toUInt32.toUInt16.toUInt32.toInt32)), .unset] []))
  refine Ends.step (fun t k => XS.iloadN X0.here hx rfl (hb hby d_method_2_code_17) rfl k) ?_
  show Ends _ _ _ _ (s₁.setTop (mkF m 18 #[.val (.int p1), .val (.int ((p1 &&& (255 : Int32)).toUInt32.toUInt16.toUInt32.toInt32)), .val (.int ((((p1.toUInt32 >>> ((8 : Int32) &&& 31).toUInt32).toInt32) &&& (255 : Int32)).toUInt32.toUInt16.toUInt32.toInt32)), .unset] [(.int p1)]))
  refine Ends.step (fun t k => XS.bipush X0.here hx rfl (hb hby d_method_2_code_18) k) ?_
  show Ends _ _ _ _ (s₁.setTop (mkF m 20 #[.val (.int p1), .val (.int ((p1 &&& (255 : Int32)).toUInt32.toUInt16.toUInt32.toInt32)), .val (.int ((((p1.toUInt32 >>> ((8 : Int32) &&& 31).toUInt32).toInt32) &&& (255 : Int32)).toUInt32.toUInt16.toUInt32.toInt32)), .unset] [(.int (16 : Int32)), (.int p1)]))
  refine Ends.step (fun t k => XS.iushr X0.here hx rfl (hb hby d_method_2_code_20) rfl k) ?_
  show Ends _ _ _ _ (s₁.setTop (mkF m 21 #[.val (.int p1), .val (.int ((p1 &&& (255 : Int32)).toUInt32.toUInt16.toUInt32.toInt32)), .val (.int ((((p1.toUInt32 >>> ((8 : Int32) &&& 31).toUInt32).toInt32) &&& (255 : Int32)).toUInt32.toUInt16.toUInt32.toInt32)), .unset] [(.int ((p1.toUInt32 >>> ((16 : Int32) &&& 31).toUInt32).toInt32))]))
  refine Ends.step (fun t k => XS.iconst X0.here hx rfl (hb hby d_method_2_code_21) k) ?_
  show Ends _ _ _ _ (s₁.setTop (mkF m 22 #[.val (.int p1), .val (.int ((p1 &&& (255 : Int32)).toUInt32.toUInt16.toUInt32.toInt32)), .val (.int ((((p1.toUInt32 >>> ((8 : Int32) &&& 31).toUInt32).toInt32) &&& (255 : Int32)).toUInt32.toUInt16.toUInt32.toInt32)), .unset] [(.int (3 : Int32)), (.int ((p1.toUInt32 >>> ((16 : Int32) &&& 31).toUInt32).toInt32))]))
  refine Ends.step (fun t k => XS.iand X0.here hx rfl (hb hby d_method_2_code_22) rfl k) ?_
  show Ends _ _ _ _ (s₁.setTop (mkF m 23 #[.val (.int p1), .val (.int ((p1 &&& (255 : Int32)).toUInt32.toUInt16.toUInt32.toInt32)), .val (.int ((((p1.toUInt32 >>> ((8 : Int32) &&& 31).toUInt32).toInt32) &&& (255 : Int32)).toUInt32.toUInt16.toUInt32.toInt32)), .unset] [(.int (((p1.toUInt32 >>> ((16 : Int32) &&& 31).toUInt32).toInt32) &&& (3 : Int32)))]))
  refine Ends.step (fun t k => XS.istoreN X0.here hx rfl (hb hby d_method_2_code_23) rfl (l' := #[.val (.int p1), .val (.int ((p1 &&& (255 : Int32)).toUInt32.toUInt16.toUInt32.toInt32)), .val (.int ((((p1.toUInt32 >>> ((8 : Int32) &&& 31).toUInt32).toInt32) &&& (255 : Int32)).toUInt32.toUInt16.toUInt32.toInt32)), .val (.int (((p1.toUInt32 >>> ((16 : Int32) &&& 31).toUInt32).toInt32) &&& (3 : Int32)))]) rfl k) ?_
  show Ends _ _ _ _ (s₁.setTop (mkF m 24 #[.val (.int p1), .val (.int ((p1 &&& (255 : Int32)).toUInt32.toUInt16.toUInt32.toInt32)), .val (.int ((((p1.toUInt32 >>> ((8 : Int32) &&& 31).toUInt32).toInt32) &&& (255 : Int32)).toUInt32.toUInt16.toUInt32.toInt32)), .val (.int (((p1.toUInt32 >>> ((16 : Int32) &&& 31).toUInt32).toInt32) &&& (3 : Int32)))] []))
  refine Ends.step (fun t k => XS.iloadN X0.here hx rfl (hb hby d_method_2_code_24) rfl k) ?_
  show Ends _ _ _ _ (s₁.setTop (mkF m 25 #[.val (.int p1), .val (.int ((p1 &&& (255 : Int32)).toUInt32.toUInt16.toUInt32.toInt32)), .val (.int ((((p1.toUInt32 >>> ((8 : Int32) &&& 31).toUInt32).toInt32) &&& (255 : Int32)).toUInt32.toUInt16.toUInt32.toInt32)), .val (.int (((p1.toUInt32 >>> ((16 : Int32) &&& 31).toUInt32).toInt32) &&& (3 : Int32)))] [(.int (((p1.toUInt32 >>> ((16 : Int32) &&& 31).toUInt32).toInt32) &&& (3 : Int32)))]))
  by_cases c1 : (((p1.toUInt32 >>> ((16 : Int32) &&& 31).toUInt32).toInt32) &&& (3 : Int32)) = (0 : Int32)
  · refine Ends.step (fun t k => XS.ifNo X0.here hx rfl (hb hby d_method_2_code_25) rfl ((if0 _ _).trans (teq c1).2) k) ?_
    show Ends _ _ _ _ (s₁.setTop (mkF m 28 #[.val (.int p1), .val (.int ((p1 &&& (255 : Int32)).toUInt32.toUInt16.toUInt32.toInt32)), .val (.int ((((p1.toUInt32 >>> ((8 : Int32) &&& 31).toUInt32).toInt32) &&& (255 : Int32)).toUInt32.toUInt16.toUInt32.toInt32)), .val (.int (((p1.toUInt32 >>> ((16 : Int32) &&& 31).toUInt32).toInt32) &&& (3 : Int32)))] []))
    obtain ⟨T2, h2, X2, e2, E2, A2, D2, -, st2⟩ := newO X0 hx hZ hown (hw _ (List.mem_of_getElem? (i := 4) rfl)) (hw _ (List.mem_of_getElem? (i := 5) rfl)) (hw _ (List.mem_of_getElem? (i := 6) rfl)) e0 (g := (mkF m 28 #[.val (.int p1), .val (.int ((p1 &&& (255 : Int32)).toUInt32.toUInt16.toUInt32.toInt32)), .val (.int ((((p1.toUInt32 >>> ((8 : Int32) &&& 31).toUInt32).toInt32) &&& (255 : Int32)).toUInt32.toUInt16.toUInt32.toInt32)), .val (.int (((p1.toUInt32 >>> ((16 : Int32) &&& 31).toUInt32).toInt32) &&& (3 : Int32)))] [])) rfl (hb hby d_method_2_code_28) (by decide) (by decide)
    obtain ⟨b2, g2⟩ : ∃ z, z = h0.size := ⟨_, rfl⟩
    rw [← g2] at A2 D2 st2
    refine Ends.step st2 ?_
    show Ends _ _ _ _ (T2.setTop (mkF m 31 #[.val (.int p1), .val (.int ((p1 &&& (255 : Int32)).toUInt32.toUInt16.toUInt32.toInt32)), .val (.int ((((p1.toUInt32 >>> ((8 : Int32) &&& 31).toUInt32).toInt32) &&& (255 : Int32)).toUInt32.toUInt16.toUInt32.toInt32)), .val (.int (((p1.toUInt32 >>> ((16 : Int32) &&& 31).toUInt32).toInt32) &&& (3 : Int32)))] [(.ref b2)]))
    refine Ends.step (fun t k => XS.dup X2.here hx rfl (hb hby d_method_2_code_31) rfl rfl k) ?_
    show Ends _ _ _ _ (T2.setTop (mkF m 32 #[.val (.int p1), .val (.int ((p1 &&& (255 : Int32)).toUInt32.toUInt16.toUInt32.toInt32)), .val (.int ((((p1.toUInt32 >>> ((8 : Int32) &&& 31).toUInt32).toInt32) &&& (255 : Int32)).toUInt32.toUInt16.toUInt32.toInt32)), .val (.int (((p1.toUInt32 >>> ((16 : Int32) &&& 31).toUInt32).toInt32) &&& (3 : Int32)))] [(.ref b2), (.ref b2)]))
    refine Ends.step (fun t k => XS.iconst X2.here hx rfl (hb hby d_method_2_code_32) k) ?_
    show Ends _ _ _ _ (T2.setTop (mkF m 33 #[.val (.int p1), .val (.int ((p1 &&& (255 : Int32)).toUInt32.toUInt16.toUInt32.toInt32)), .val (.int ((((p1.toUInt32 >>> ((8 : Int32) &&& 31).toUInt32).toInt32) &&& (255 : Int32)).toUInt32.toUInt16.toUInt32.toInt32)), .val (.int (((p1.toUInt32 >>> ((16 : Int32) &&& 31).toUInt32).toInt32) &&& (3 : Int32)))] [(.int (0 : Int32)), (.ref b2), (.ref b2)]))
    obtain ⟨T3, h3, k3, X3, e3, E3, A3, st3⟩ := newP X2 hx hZ (hw _ (List.mem_of_getElem? (i := 7) rfl)) e2 (g := (mkF m 33 #[.val (.int p1), .val (.int ((p1 &&& (255 : Int32)).toUInt32.toUInt16.toUInt32.toInt32)), .val (.int ((((p1.toUInt32 >>> ((8 : Int32) &&& 31).toUInt32).toInt32) &&& (255 : Int32)).toUInt32.toUInt16.toUInt32.toInt32)), .val (.int (((p1.toUInt32 >>> ((16 : Int32) &&& 31).toUInt32).toInt32) &&& (3 : Int32)))] [(.int (0 : Int32)), (.ref b2), (.ref b2)])) rfl (hb hby d_method_2_code_33) rfl (by decide : ¬ ((0 : Int32) < (0 : Int32))) (cap := 0) (by decide) (by decide) (by decide) (by decide)
    obtain ⟨b3, g3⟩ : ∃ z, z = h2.size := ⟨_, rfl⟩
    rw [← g3] at A3 st3
    have V3 : Arv Z h3 b3 k3 .char (0 : Int32) [] (.int (0 : Int32)) := (Arv.new A3 (by decide : ¬ ((0 : Int32) < (0 : Int32)))).pad (pad_rep [] (.int (0 : Int32)) 0)
    refine Ends.step st3 ?_
    show Ends _ _ _ _ (T3.setTop (mkF m 35 #[.val (.int p1), .val (.int ((p1 &&& (255 : Int32)).toUInt32.toUInt16.toUInt32.toInt32)), .val (.int ((((p1.toUInt32 >>> ((8 : Int32) &&& 31).toUInt32).toInt32) &&& (255 : Int32)).toUInt32.toUInt16.toUInt32.toInt32)), .val (.int (((p1.toUInt32 >>> ((16 : Int32) &&& 31).toUInt32).toInt32) &&& (3 : Int32)))] [(.ref b3), (.ref b2), (.ref b2)]))
    have F4 : Exa Z h3 b2 "java/lang/String" := (A2.ext E3)
    have F5 : Fld Z h3 b2 "java/lang/String" "value" "[B" .null := ((D2 (Or.inr (hw _ (List.mem_of_getElem? (i := 20) rfl))) pf_0).ext E3)
    have F6 : Fld Z h3 b2 "java/lang/String" "coder" "B" (.int (0 : Int32)) := ((D2 (Or.inr (hw _ (List.mem_of_getElem? (i := 21) rfl))) pf_1).ext E3)
    have F7 : Old Z n0 h3 := ((X00.ext E2).ext E3)
    have CR8 := own_chrE CR0 E2
    have CR9 := own_chrE CR8 E3
    obtain ⟨_, _, ⟨T10, L10, k10, n10⟩, -, Xs10, hs10, hg10, ⟨Lc10, hQ10, l10, y10, z10, CRc10⟩, st10⟩ := X3.specialBackS hx (y := (⟨"java/lang/String", "<init>", "([C)V"⟩ : MethodName)) rfl hown (mvT hZ (hw _ (List.mem_of_getElem? (i := 8) rfl))) (mvT hZ (hw _ (List.mem_of_getElem? (i := 9) rfl))) (mvT hZ (hw _ (List.mem_of_getElem? (i := 10) rfl))) (by decide) (backOfSH (s := s) (vm0 := s.vm) (W := 1) (rmScE l Z a0 hw [] b2 b3 k3 h3 n0 (Nat.le_trans Z0 (Nat.le_trans E2.1 E3.1)) G1 O2 P5 eA SE XE FE F7 F4 F5 F6 (Nat.le_trans (Nat.le_trans Z0 (Nat.le_refl _)) (Nat.le_of_eq g2.symm)) V3) hZ (hw _ (List.mem_of_getElem? (i := 10) rfl)) (hw _ (List.mem_of_getElem? (i := 6) rfl)) (by decide) (by decide) (own_hEL hw) CR9.1) (g := (mkF m 35 #[.val (.int p1), .val (.int ((p1 &&& (255 : Int32)).toUInt32.toUInt16.toUInt32.toInt32)), .val (.int ((((p1.toUInt32 >>> ((8 : Int32) &&& 31).toUInt32).toInt32) &&& (255 : Int32)).toUInt32.toUInt16.toUInt32.toInt32)), .val (.int (((p1.toUInt32 >>> ((16 : Int32) &&& 31).toUInt32).toInt32) &&& (3 : Int32)))] [(.ref b3), (.ref b2), (.ref b2)])) rfl (by rw [hml]; rfl) (Steps.refl _) (a := b2) (argsL := [(.ref b3)]) (rest := [(.ref b2)]) (lenOf pd_2 rfl) rfl (by show 2 * 0 + _ ≤ _; exact Nat.le_of_eq rfl) (hb hby d_method_2_code_35) (fun _ _ => ⟨rfl, e3, (by decide : 2 + 2 ≤ _), (by decide : 4 + 4 ≤ _)⟩)
    dsimp only [Pt.U, Pt.locs, Pt.cells, Pt.slots] at Xs10 hs10 hg10 l10 y10 z10 st10 hQ10 CRc10
    subst l10 y10 z10
    obtain ⟨X10, hS10, hZ10, hown10⟩ := rebS hS0 (Nat.le_trans (Nat.zero_le _) (Nat.le_of_eq (congrArg Array.size (Eq.symm e3)))) Xs10 hs10 hg10 hZ hown
    have CR10 := CR9.trans CRc10
    obtain ⟨b_10, kb_10, rfl, Nq10, K10, f10_0, f10_1, f10_2, f10_3⟩ := hQ10
    have N10 := Fr.app N0 Nq10
    refine Ends.go st10 ?_
    have K11 : Keep h0 T10.heap [] := ((((Keep.refl h0 []).ext E2).ext E3).trans K10 (allS (Or.inr (Nat.le_trans (Nat.le_refl _) (Nat.le_of_eq g2.symm))) all0))
    show Ends _ _ _ _ (T10.setTop (mkF m 38 #[.val (.int p1), .val (.int ((p1 &&& (255 : Int32)).toUInt32.toUInt16.toUInt32.toInt32)), .val (.int ((((p1.toUInt32 >>> ((8 : Int32) &&& 31).toUInt32).toInt32) &&& (255 : Int32)).toUInt32.toUInt16.toUInt32.toInt32)), .val (.int (((p1.toUInt32 >>> ((16 : Int32) &&& 31).toUInt32).toInt32) &&& (3 : Int32)))] [(.ref b2)]))
    exact own_finRW X10 hS10 hx hlk hh (own_hEL hw) (Nat.le_refl _) CR10 hZ10 Bd.returns rfl rfl (hb hby d_method_2_code_38) rfl ⟨b2, rfl, N10, ((Keep.refl h0 []).trans K11 all0), (Nat.le_trans (Nat.le_refl _) (Nat.le_of_eq g2.symm)), f10_0⟩ (by decide) (by decide)
  · refine Ends.step (fun t k => XS.ifYes X0.here hx rfl (pc0 := 25) (pc' := 39) rfl (hb hby d_method_2_code_25) rfl ((if0 _ _).trans (feq c1).2) (by decide) (by decide) k) ?_
    show Ends _ _ _ _ (s₁.setTop (mkF m 39 #[.val (.int p1), .val (.int ((p1 &&& (255 : Int32)).toUInt32.toUInt16.toUInt32.toInt32)), .val (.int ((((p1.toUInt32 >>> ((8 : Int32) &&& 31).toUInt32).toInt32) &&& (255 : Int32)).toUInt32.toUInt16.toUInt32.toInt32)), .val (.int (((p1.toUInt32 >>> ((16 : Int32) &&& 31).toUInt32).toInt32) &&& (3 : Int32)))] []))
    refine Ends.step (fun t k => XS.iloadN X0.here hx rfl (hb hby d_method_2_code_39) rfl k) ?_
    show Ends _ _ _ _ (s₁.setTop (mkF m 40 #[.val (.int p1), .val (.int ((p1 &&& (255 : Int32)).toUInt32.toUInt16.toUInt32.toInt32)), .val (.int ((((p1.toUInt32 >>> ((8 : Int32) &&& 31).toUInt32).toInt32) &&& (255 : Int32)).toUInt32.toUInt16.toUInt32.toInt32)), .val (.int (((p1.toUInt32 >>> ((16 : Int32) &&& 31).toUInt32).toInt32) &&& (3 : Int32)))] [(.int (((p1.toUInt32 >>> ((16 : Int32) &&& 31).toUInt32).toInt32) &&& (3 : Int32)))]))
    refine Ends.step (fun t k => XS.iconst X0.here hx rfl (hb hby d_method_2_code_40) k) ?_
    show Ends _ _ _ _ (s₁.setTop (mkF m 41 #[.val (.int p1), .val (.int ((p1 &&& (255 : Int32)).toUInt32.toUInt16.toUInt32.toInt32)), .val (.int ((((p1.toUInt32 >>> ((8 : Int32) &&& 31).toUInt32).toInt32) &&& (255 : Int32)).toUInt32.toUInt16.toUInt32.toInt32)), .val (.int (((p1.toUInt32 >>> ((16 : Int32) &&& 31).toUInt32).toInt32) &&& (3 : Int32)))] [(.int (1 : Int32)), (.int (((p1.toUInt32 >>> ((16 : Int32) &&& 31).toUInt32).toInt32) &&& (3 : Int32)))]))
    by_cases c12 : (((p1.toUInt32 >>> ((16 : Int32) &&& 31).toUInt32).toInt32) &&& (3 : Int32)) = (1 : Int32)
    · refine Ends.step (fun t k => XS.icmpNo X0.here hx rfl (hb hby d_method_2_code_41) rfl (teq c12).2 k) ?_
      show Ends _ _ _ _ (s₁.setTop (mkF m 44 #[.val (.int p1), .val (.int ((p1 &&& (255 : Int32)).toUInt32.toUInt16.toUInt32.toInt32)), .val (.int ((((p1.toUInt32 >>> ((8 : Int32) &&& 31).toUInt32).toInt32) &&& (255 : Int32)).toUInt32.toUInt16.toUInt32.toInt32)), .val (.int (((p1.toUInt32 >>> ((16 : Int32) &&& 31).toUInt32).toInt32) &&& (3 : Int32)))] []))
      obtain ⟨T13, h13, X13, e13, E13, A13, D13, -, st13⟩ := newO X0 hx hZ hown (hw _ (List.mem_of_getElem? (i := 4) rfl)) (hw _ (List.mem_of_getElem? (i := 5) rfl)) (hw _ (List.mem_of_getElem? (i := 6) rfl)) e0 (g := (mkF m 44 #[.val (.int p1), .val (.int ((p1 &&& (255 : Int32)).toUInt32.toUInt16.toUInt32.toInt32)), .val (.int ((((p1.toUInt32 >>> ((8 : Int32) &&& 31).toUInt32).toInt32) &&& (255 : Int32)).toUInt32.toUInt16.toUInt32.toInt32)), .val (.int (((p1.toUInt32 >>> ((16 : Int32) &&& 31).toUInt32).toInt32) &&& (3 : Int32)))] [])) rfl (hb hby d_method_2_code_44) (by decide) (by decide)
      obtain ⟨b13, g13⟩ : ∃ z, z = h0.size := ⟨_, rfl⟩
      rw [← g13] at A13 D13 st13
      refine Ends.step st13 ?_
      show Ends _ _ _ _ (T13.setTop (mkF m 47 #[.val (.int p1), .val (.int ((p1 &&& (255 : Int32)).toUInt32.toUInt16.toUInt32.toInt32)), .val (.int ((((p1.toUInt32 >>> ((8 : Int32) &&& 31).toUInt32).toInt32) &&& (255 : Int32)).toUInt32.toUInt16.toUInt32.toInt32)), .val (.int (((p1.toUInt32 >>> ((16 : Int32) &&& 31).toUInt32).toInt32) &&& (3 : Int32)))] [(.ref b13)]))
      refine Ends.step (fun t k => XS.dup X13.here hx rfl (hb hby d_method_2_code_47) rfl rfl k) ?_
      show Ends _ _ _ _ (T13.setTop (mkF m 48 #[.val (.int p1), .val (.int ((p1 &&& (255 : Int32)).toUInt32.toUInt16.toUInt32.toInt32)), .val (.int ((((p1.toUInt32 >>> ((8 : Int32) &&& 31).toUInt32).toInt32) &&& (255 : Int32)).toUInt32.toUInt16.toUInt32.toInt32)), .val (.int (((p1.toUInt32 >>> ((16 : Int32) &&& 31).toUInt32).toInt32) &&& (3 : Int32)))] [(.ref b13), (.ref b13)]))
      refine Ends.step (fun t k => XS.iconst X13.here hx rfl (hb hby d_method_2_code_48) k) ?_
      show Ends _ _ _ _ (T13.setTop (mkF m 49 #[.val (.int p1), .val (.int ((p1 &&& (255 : Int32)).toUInt32.toUInt16.toUInt32.toInt32)), .val (.int ((((p1.toUInt32 >>> ((8 : Int32) &&& 31).toUInt32).toInt32) &&& (255 : Int32)).toUInt32.toUInt16.toUInt32.toInt32)), .val (.int (((p1.toUInt32 >>> ((16 : Int32) &&& 31).toUInt32).toInt32) &&& (3 : Int32)))] [(.int (1 : Int32)), (.ref b13), (.ref b13)]))
      obtain ⟨T14, h14, k14, X14, e14, E14, A14, st14⟩ := newP X13 hx hZ (hw _ (List.mem_of_getElem? (i := 7) rfl)) e13 (g := (mkF m 49 #[.val (.int p1), .val (.int ((p1 &&& (255 : Int32)).toUInt32.toUInt16.toUInt32.toInt32)), .val (.int ((((p1.toUInt32 >>> ((8 : Int32) &&& 31).toUInt32).toInt32) &&& (255 : Int32)).toUInt32.toUInt16.toUInt32.toInt32)), .val (.int (((p1.toUInt32 >>> ((16 : Int32) &&& 31).toUInt32).toInt32) &&& (3 : Int32)))] [(.int (1 : Int32)), (.ref b13), (.ref b13)])) rfl (hb hby d_method_2_code_49) rfl (by decide : ¬ ((1 : Int32) < (0 : Int32))) (cap := 1) (by decide) (by decide) (by decide) (by decide)
      obtain ⟨b14, g14⟩ : ∃ z, z = h13.size := ⟨_, rfl⟩
      rw [← g14] at A14 st14
      have V14 : Arv Z h14 b14 k14 .char (1 : Int32) [(.int (0 : Int32))] (.int (0 : Int32)) := (Arv.new A14 (by decide : ¬ ((1 : Int32) < (0 : Int32)))).pad (pad_rep [] (.int (0 : Int32)) 1)
      refine Ends.step st14 ?_
      show Ends _ _ _ _ (T14.setTop (mkF m 51 #[.val (.int p1), .val (.int ((p1 &&& (255 : Int32)).toUInt32.toUInt16.toUInt32.toInt32)), .val (.int ((((p1.toUInt32 >>> ((8 : Int32) &&& 31).toUInt32).toInt32) &&& (255 : Int32)).toUInt32.toUInt16.toUInt32.toInt32)), .val (.int (((p1.toUInt32 >>> ((16 : Int32) &&& 31).toUInt32).toInt32) &&& (3 : Int32)))] [(.ref b14), (.ref b13), (.ref b13)]))
      refine Ends.step (fun t k => XS.dup X14.here hx rfl (hb hby d_method_2_code_51) rfl rfl k) ?_
      show Ends _ _ _ _ (T14.setTop (mkF m 52 #[.val (.int p1), .val (.int ((p1 &&& (255 : Int32)).toUInt32.toUInt16.toUInt32.toInt32)), .val (.int ((((p1.toUInt32 >>> ((8 : Int32) &&& 31).toUInt32).toInt32) &&& (255 : Int32)).toUInt32.toUInt16.toUInt32.toInt32)), .val (.int (((p1.toUInt32 >>> ((16 : Int32) &&& 31).toUInt32).toInt32) &&& (3 : Int32)))] [(.ref b14), (.ref b14), (.ref b13), (.ref b13)]))
      refine Ends.step (fun t k => XS.iconst X14.here hx rfl (hb hby d_method_2_code_52) k) ?_
      show Ends _ _ _ _ (T14.setTop (mkF m 53 #[.val (.int p1), .val (.int ((p1 &&& (255 : Int32)).toUInt32.toUInt16.toUInt32.toInt32)), .val (.int ((((p1.toUInt32 >>> ((8 : Int32) &&& 31).toUInt32).toInt32) &&& (255 : Int32)).toUInt32.toUInt16.toUInt32.toInt32)), .val (.int (((p1.toUInt32 >>> ((16 : Int32) &&& 31).toUInt32).toInt32) &&& (3 : Int32)))] [(.int (0 : Int32)), (.ref b14), (.ref b14), (.ref b13), (.ref b13)]))
      refine Ends.step (fun t k => XS.iloadN X14.here hx rfl (hb hby d_method_2_code_53) rfl k) ?_
      show Ends _ _ _ _ (T14.setTop (mkF m 54 #[.val (.int p1), .val (.int ((p1 &&& (255 : Int32)).toUInt32.toUInt16.toUInt32.toInt32)), .val (.int ((((p1.toUInt32 >>> ((8 : Int32) &&& 31).toUInt32).toInt32) &&& (255 : Int32)).toUInt32.toUInt16.toUInt32.toInt32)), .val (.int (((p1.toUInt32 >>> ((16 : Int32) &&& 31).toUInt32).toInt32) &&& (3 : Int32)))] [(.int ((p1 &&& (255 : Int32)).toUInt32.toUInt16.toUInt32.toInt32)), (.int (0 : Int32)), (.ref b14), (.ref b14), (.ref b13), (.ref b13)]))
      obtain ⟨cl15, Ar15, q15, S15, M15, H15, Gx15⟩ := V14
      obtain ⟨T16, h16, X16, e16, W16, st16⟩ := stC X14 hx hZ e14 Ar15 (j := (0 : Int32)) (inb_of S15 ⟨by decide, by decide⟩) (g := (mkF m 54 #[.val (.int p1), .val (.int ((p1 &&& (255 : Int32)).toUInt32.toUInt16.toUInt32.toInt32)), .val (.int ((((p1.toUInt32 >>> ((8 : Int32) &&& 31).toUInt32).toInt32) &&& (255 : Int32)).toUInt32.toUInt16.toUInt32.toInt32)), .val (.int (((p1.toUInt32 >>> ((16 : Int32) &&& 31).toUInt32).toInt32) &&& (3 : Int32)))] [(.int ((p1 &&& (255 : Int32)).toUInt32.toUInt16.toUInt32.toInt32)), (.int (0 : Int32)), (.ref b14), (.ref b14), (.ref b13), (.ref b13)])) rfl rfl (hb hby d_method_2_code_54)
      have N16 := Fr.snoc X16 N0 (Nat.le_trans (Nat.le_trans Z0 E13.1) (Nat.le_of_eq g14.symm))
      have V16 : Arv Z h16 b14 k14 .char (1 : Int32) [(.int (nar .char ((p1 &&& (255 : Int32)).toUInt32.toUInt16.toUInt32.toInt32)))] (.int (0 : Int32)) := Arv.set Ar15 q15 S15 M15 H15 Gx15 (fits_nar_char _) W16 0 rfl (Nat.le_of_ble_eq_true rfl)
      refine Ends.step st16 ?_
      show Ends _ _ _ _ (T16.setTop (mkF m 55 #[.val (.int p1), .val (.int ((p1 &&& (255 : Int32)).toUInt32.toUInt16.toUInt32.toInt32)), .val (.int ((((p1.toUInt32 >>> ((8 : Int32) &&& 31).toUInt32).toInt32) &&& (255 : Int32)).toUInt32.toUInt16.toUInt32.toInt32)), .val (.int (((p1.toUInt32 >>> ((16 : Int32) &&& 31).toUInt32).toInt32) &&& (3 : Int32)))] [(.ref b14), (.ref b13), (.ref b13)]))
      have F17 : Exa Z h16 b13 "java/lang/String" := ((A13.ext E14).wr W16)
      have F18 : Fld Z h16 b13 "java/lang/String" "value" "[B" .null := (((D13 (Or.inr (hw _ (List.mem_of_getElem? (i := 20) rfl))) pf_0).ext E14).other W16 (Or.inl (Nat.ne_of_lt (Nat.lt_of_lt_of_le A13.lt (Nat.le_of_eq g14.symm)))))
      have F19 : Fld Z h16 b13 "java/lang/String" "coder" "B" (.int (0 : Int32)) := (((D13 (Or.inr (hw _ (List.mem_of_getElem? (i := 21) rfl))) pf_1).ext E14).other W16 (Or.inl (Nat.ne_of_lt (Nat.lt_of_lt_of_le A13.lt (Nat.le_of_eq g14.symm)))))
      have F20 : Old Z n0 h16 := (((X00.ext E13).ext E14).wr W16 (Nat.le_trans (Nat.le_trans Z0 E13.1) (Nat.le_of_eq g14.symm)))
      have hp21 : ∀ c ∈ ([(nar .char ((p1 &&& (255 : Int32)).toUInt32.toUInt16.toUInt32.toInt32))] : List Int32), ¬ c < 0 ∧ ¬ (255 : Int32) < c := (List.forall_mem_cons.mpr ⟨(own_and255 _), (fun _ q => nomatch q)⟩)
      obtain ⟨_, _, ⟨T22, L22, k22, n22⟩, -, X22, ⟨Lc22, hQ22, l22, y22, z22⟩, st22⟩ := X16.specialBack hx (y := (⟨"java/lang/String", "<init>", "([C)V"⟩ : MethodName)) rfl hown (mvT hZ (hw _ (List.mem_of_getElem? (i := 8) rfl))) (mvT hZ (hw _ (List.mem_of_getElem? (i := 9) rfl))) (mvT hZ (hw _ (List.mem_of_getElem? (i := 10) rfl))) (by decide) (StrChars.Road.backV (W := 1) hZ (own_hws hw) (kI := 4) (hw _ (List.mem_of_getElem? (i := 5) rfl)) (cs := ([(nar .char ((p1 &&& (255 : Int32)).toUInt32.toUInt16.toUInt32.toInt32))] : List Int32)) (bs := ([(nar .char ((p1 &&& (255 : Int32)).toUInt32.toUInt16.toUInt32.toInt32))] : List Int32).map (fun c => c.toInt8.toInt32)) (n := 1) (Nat.le_trans (Nat.le_trans Z0 (Nat.le_refl _)) (Nat.le_of_eq g13.symm)) (Nat.le_trans Z0 (Nat.le_trans (Nat.le_trans E13.1 E14.1) (Nat.le_of_eq W16.size.symm))) F17 F18 F19 V16 (O2.ext F20.2) P5 rfl rfl (by decide) (by decide) hp21 rfl (by decide) (by decide)) (g := (mkF m 55 #[.val (.int p1), .val (.int ((p1 &&& (255 : Int32)).toUInt32.toUInt16.toUInt32.toInt32)), .val (.int ((((p1.toUInt32 >>> ((8 : Int32) &&& 31).toUInt32).toInt32) &&& (255 : Int32)).toUInt32.toUInt16.toUInt32.toInt32)), .val (.int (((p1.toUInt32 >>> ((16 : Int32) &&& 31).toUInt32).toInt32) &&& (3 : Int32)))] [(.ref b14), (.ref b13), (.ref b13)])) rfl (by rw [hml]; rfl) (Steps.refl _) (a := b13) (argsL := [(.ref b14)]) (rest := [(.ref b13)]) (lenOf pd_2 rfl) rfl (by show 2 * 0 + _ ≤ _; exact Nat.le_of_eq rfl) (hb hby d_method_2_code_55) (fun _ _ => ⟨rfl, e16, (by decide : 2 + 1 ≤ _), (by decide : 5 + 1 ≤ _)⟩)
      dsimp only [Pt.U, Pt.locs, Pt.cells, Pt.slots] at X22 l22 y22 z22 st22 hQ22
      subst l22 y22 z22
      obtain ⟨rfl, Nq22, K22, E22, C22, t22, kb22, u22, ut22, un22, Vv22, Av22⟩ := hQ22
      have N22 := Fr.app N16 Nq22
      refine Ends.go st22 ?_
      have K23 : Keep h0 T22.heap [] := (((((Keep.refl h0 []).ext E13).ext E14).wr W16 (Or.inr (Nat.le_trans E13.1 (Nat.le_of_eq g14.symm)))).trans K22 (allS (Or.inr (Nat.le_trans (Nat.le_refl _) (Nat.le_of_eq g13.symm))) all0))
      show Ends _ _ _ _ (T22.setTop (mkF m 58 #[.val (.int p1), .val (.int ((p1 &&& (255 : Int32)).toUInt32.toUInt16.toUInt32.toInt32)), .val (.int ((((p1.toUInt32 >>> ((8 : Int32) &&& 31).toUInt32).toInt32) &&& (255 : Int32)).toUInt32.toUInt16.toUInt32.toInt32)), .val (.int (((p1.toUInt32 >>> ((16 : Int32) &&& 31).toUInt32).toInt32) &&& (3 : Int32)))] [(.ref b13)]))
      have CR24 := own_chrK CR0 K23
      exact own_finRW X22 hS0 hx hlk hh (own_hEL hw) (Nat.zero_le _) CR24 hZ Bd.returns rfl rfl (hb hby d_method_2_code_58) rfl ⟨b13, rfl, N22, ((Keep.refl h0 []).trans K23 all0), (Nat.le_trans (Nat.le_refl _) (Nat.le_of_eq g13.symm)), E22⟩ (by decide) (by decide)
    · refine Ends.step (fun t k => XS.icmpYes X0.here hx rfl (pc0 := 41) (pc' := 59) rfl (hb hby d_method_2_code_41) rfl (feq c12).2 (by decide) (by decide) k) ?_
      show Ends _ _ _ _ (s₁.setTop (mkF m 59 #[.val (.int p1), .val (.int ((p1 &&& (255 : Int32)).toUInt32.toUInt16.toUInt32.toInt32)), .val (.int ((((p1.toUInt32 >>> ((8 : Int32) &&& 31).toUInt32).toInt32) &&& (255 : Int32)).toUInt32.toUInt16.toUInt32.toInt32)), .val (.int (((p1.toUInt32 >>> ((16 : Int32) &&& 31).toUInt32).toInt32) &&& (3 : Int32)))] []))
      obtain ⟨T25, h25, X25, e25, E25, A25, D25, -, st25⟩ := newO X0 hx hZ hown (hw _ (List.mem_of_getElem? (i := 4) rfl)) (hw _ (List.mem_of_getElem? (i := 5) rfl)) (hw _ (List.mem_of_getElem? (i := 6) rfl)) e0 (g := (mkF m 59 #[.val (.int p1), .val (.int ((p1 &&& (255 : Int32)).toUInt32.toUInt16.toUInt32.toInt32)), .val (.int ((((p1.toUInt32 >>> ((8 : Int32) &&& 31).toUInt32).toInt32) &&& (255 : Int32)).toUInt32.toUInt16.toUInt32.toInt32)), .val (.int (((p1.toUInt32 >>> ((16 : Int32) &&& 31).toUInt32).toInt32) &&& (3 : Int32)))] [])) rfl (hb hby d_method_2_code_59) (by decide) (by decide)
      obtain ⟨b25, g25⟩ : ∃ z, z = h0.size := ⟨_, rfl⟩
      rw [← g25] at A25 D25 st25
      refine Ends.step st25 ?_
      show Ends _ _ _ _ (T25.setTop (mkF m 62 #[.val (.int p1), .val (.int ((p1 &&& (255 : Int32)).toUInt32.toUInt16.toUInt32.toInt32)), .val (.int ((((p1.toUInt32 >>> ((8 : Int32) &&& 31).toUInt32).toInt32) &&& (255 : Int32)).toUInt32.toUInt16.toUInt32.toInt32)), .val (.int (((p1.toUInt32 >>> ((16 : Int32) &&& 31).toUInt32).toInt32) &&& (3 : Int32)))] [(.ref b25)]))
      refine Ends.step (fun t k => XS.dup X25.here hx rfl (hb hby d_method_2_code_62) rfl rfl k) ?_
      show Ends _ _ _ _ (T25.setTop (mkF m 63 #[.val (.int p1), .val (.int ((p1 &&& (255 : Int32)).toUInt32.toUInt16.toUInt32.toInt32)), .val (.int ((((p1.toUInt32 >>> ((8 : Int32) &&& 31).toUInt32).toInt32) &&& (255 : Int32)).toUInt32.toUInt16.toUInt32.toInt32)), .val (.int (((p1.toUInt32 >>> ((16 : Int32) &&& 31).toUInt32).toInt32) &&& (3 : Int32)))] [(.ref b25), (.ref b25)]))
      refine Ends.step (fun t k => XS.iconst X25.here hx rfl (hb hby d_method_2_code_63) k) ?_
      show Ends _ _ _ _ (T25.setTop (mkF m 64 #[.val (.int p1), .val (.int ((p1 &&& (255 : Int32)).toUInt32.toUInt16.toUInt32.toInt32)), .val (.int ((((p1.toUInt32 >>> ((8 : Int32) &&& 31).toUInt32).toInt32) &&& (255 : Int32)).toUInt32.toUInt16.toUInt32.toInt32)), .val (.int (((p1.toUInt32 >>> ((16 : Int32) &&& 31).toUInt32).toInt32) &&& (3 : Int32)))] [(.int (2 : Int32)), (.ref b25), (.ref b25)]))
      obtain ⟨T26, h26, k26, X26, e26, E26, A26, st26⟩ := newP X25 hx hZ (hw _ (List.mem_of_getElem? (i := 7) rfl)) e25 (g := (mkF m 64 #[.val (.int p1), .val (.int ((p1 &&& (255 : Int32)).toUInt32.toUInt16.toUInt32.toInt32)), .val (.int ((((p1.toUInt32 >>> ((8 : Int32) &&& 31).toUInt32).toInt32) &&& (255 : Int32)).toUInt32.toUInt16.toUInt32.toInt32)), .val (.int (((p1.toUInt32 >>> ((16 : Int32) &&& 31).toUInt32).toInt32) &&& (3 : Int32)))] [(.int (2 : Int32)), (.ref b25), (.ref b25)])) rfl (hb hby d_method_2_code_64) rfl (by decide : ¬ ((2 : Int32) < (0 : Int32))) (cap := 2) (by decide) (by decide) (by decide) (by decide)
      obtain ⟨b26, g26⟩ : ∃ z, z = h25.size := ⟨_, rfl⟩
      rw [← g26] at A26 st26
      have V26 : Arv Z h26 b26 k26 .char (2 : Int32) [(.int (0 : Int32)), (.int (0 : Int32))] (.int (0 : Int32)) := (Arv.new A26 (by decide : ¬ ((2 : Int32) < (0 : Int32)))).pad (pad_rep [] (.int (0 : Int32)) 2)
      refine Ends.step st26 ?_
      show Ends _ _ _ _ (T26.setTop (mkF m 66 #[.val (.int p1), .val (.int ((p1 &&& (255 : Int32)).toUInt32.toUInt16.toUInt32.toInt32)), .val (.int ((((p1.toUInt32 >>> ((8 : Int32) &&& 31).toUInt32).toInt32) &&& (255 : Int32)).toUInt32.toUInt16.toUInt32.toInt32)), .val (.int (((p1.toUInt32 >>> ((16 : Int32) &&& 31).toUInt32).toInt32) &&& (3 : Int32)))] [(.ref b26), (.ref b25), (.ref b25)]))
      refine Ends.step (fun t k => XS.dup X26.here hx rfl (hb hby d_method_2_code_66) rfl rfl k) ?_
      show Ends _ _ _ _ (T26.setTop (mkF m 67 #[.val (.int p1), .val (.int ((p1 &&& (255 : Int32)).toUInt32.toUInt16.toUInt32.toInt32)), .val (.int ((((p1.toUInt32 >>> ((8 : Int32) &&& 31).toUInt32).toInt32) &&& (255 : Int32)).toUInt32.toUInt16.toUInt32.toInt32)), .val (.int (((p1.toUInt32 >>> ((16 : Int32) &&& 31).toUInt32).toInt32) &&& (3 : Int32)))] [(.ref b26), (.ref b26), (.ref b25), (.ref b25)]))
      refine Ends.step (fun t k => XS.iconst X26.here hx rfl (hb hby d_method_2_code_67) k) ?_
      show Ends _ _ _ _ (T26.setTop (mkF m 68 #[.val (.int p1), .val (.int ((p1 &&& (255 : Int32)).toUInt32.toUInt16.toUInt32.toInt32)), .val (.int ((((p1.toUInt32 >>> ((8 : Int32) &&& 31).toUInt32).toInt32) &&& (255 : Int32)).toUInt32.toUInt16.toUInt32.toInt32)), .val (.int (((p1.toUInt32 >>> ((16 : Int32) &&& 31).toUInt32).toInt32) &&& (3 : Int32)))] [(.int (0 : Int32)), (.ref b26), (.ref b26), (.ref b25), (.ref b25)]))
      refine Ends.step (fun t k => XS.iloadN X26.here hx rfl (hb hby d_method_2_code_68) rfl k) ?_
      show Ends _ _ _ _ (T26.setTop (mkF m 69 #[.val (.int p1), .val (.int ((p1 &&& (255 : Int32)).toUInt32.toUInt16.toUInt32.toInt32)), .val (.int ((((p1.toUInt32 >>> ((8 : Int32) &&& 31).toUInt32).toInt32) &&& (255 : Int32)).toUInt32.toUInt16.toUInt32.toInt32)), .val (.int (((p1.toUInt32 >>> ((16 : Int32) &&& 31).toUInt32).toInt32) &&& (3 : Int32)))] [(.int ((p1 &&& (255 : Int32)).toUInt32.toUInt16.toUInt32.toInt32)), (.int (0 : Int32)), (.ref b26), (.ref b26), (.ref b25), (.ref b25)]))
      obtain ⟨cl27, Ar27, q27, S27, M27, H27, Gx27⟩ := V26
      obtain ⟨T28, h28, X28, e28, W28, st28⟩ := stC X26 hx hZ e26 Ar27 (j := (0 : Int32)) (inb_of S27 ⟨by decide, by decide⟩) (g := (mkF m 69 #[.val (.int p1), .val (.int ((p1 &&& (255 : Int32)).toUInt32.toUInt16.toUInt32.toInt32)), .val (.int ((((p1.toUInt32 >>> ((8 : Int32) &&& 31).toUInt32).toInt32) &&& (255 : Int32)).toUInt32.toUInt16.toUInt32.toInt32)), .val (.int (((p1.toUInt32 >>> ((16 : Int32) &&& 31).toUInt32).toInt32) &&& (3 : Int32)))] [(.int ((p1 &&& (255 : Int32)).toUInt32.toUInt16.toUInt32.toInt32)), (.int (0 : Int32)), (.ref b26), (.ref b26), (.ref b25), (.ref b25)])) rfl rfl (hb hby d_method_2_code_69)
      have N28 := Fr.snoc X28 N0 (Nat.le_trans (Nat.le_trans Z0 E25.1) (Nat.le_of_eq g26.symm))
      have V28 : Arv Z h28 b26 k26 .char (2 : Int32) [(.int (nar .char ((p1 &&& (255 : Int32)).toUInt32.toUInt16.toUInt32.toInt32))), (.int (0 : Int32))] (.int (0 : Int32)) := Arv.set Ar27 q27 S27 M27 H27 Gx27 (fits_nar_char _) W28 0 rfl (Nat.le_of_ble_eq_true rfl)
      refine Ends.step st28 ?_
      show Ends _ _ _ _ (T28.setTop (mkF m 70 #[.val (.int p1), .val (.int ((p1 &&& (255 : Int32)).toUInt32.toUInt16.toUInt32.toInt32)), .val (.int ((((p1.toUInt32 >>> ((8 : Int32) &&& 31).toUInt32).toInt32) &&& (255 : Int32)).toUInt32.toUInt16.toUInt32.toInt32)), .val (.int (((p1.toUInt32 >>> ((16 : Int32) &&& 31).toUInt32).toInt32) &&& (3 : Int32)))] [(.ref b26), (.ref b25), (.ref b25)]))
      refine Ends.step (fun t k => XS.dup X28.here hx rfl (hb hby d_method_2_code_70) rfl rfl k) ?_
      show Ends _ _ _ _ (T28.setTop (mkF m 71 #[.val (.int p1), .val (.int ((p1 &&& (255 : Int32)).toUInt32.toUInt16.toUInt32.toInt32)), .val (.int ((((p1.toUInt32 >>> ((8 : Int32) &&& 31).toUInt32).toInt32) &&& (255 : Int32)).toUInt32.toUInt16.toUInt32.toInt32)), .val (.int (((p1.toUInt32 >>> ((16 : Int32) &&& 31).toUInt32).toInt32) &&& (3 : Int32)))] [(.ref b26), (.ref b26), (.ref b25), (.ref b25)]))
      refine Ends.step (fun t k => XS.iconst X28.here hx rfl (hb hby d_method_2_code_71) k) ?_
      show Ends _ _ _ _ (T28.setTop (mkF m 72 #[.val (.int p1), .val (.int ((p1 &&& (255 : Int32)).toUInt32.toUInt16.toUInt32.toInt32)), .val (.int ((((p1.toUInt32 >>> ((8 : Int32) &&& 31).toUInt32).toInt32) &&& (255 : Int32)).toUInt32.toUInt16.toUInt32.toInt32)), .val (.int (((p1.toUInt32 >>> ((16 : Int32) &&& 31).toUInt32).toInt32) &&& (3 : Int32)))] [(.int (1 : Int32)), (.ref b26), (.ref b26), (.ref b25), (.ref b25)]))
      refine Ends.step (fun t k => XS.iloadN X28.here hx rfl (hb hby d_method_2_code_72) rfl k) ?_
      show Ends _ _ _ _ (T28.setTop (mkF m 73 #[.val (.int p1), .val (.int ((p1 &&& (255 : Int32)).toUInt32.toUInt16.toUInt32.toInt32)), .val (.int ((((p1.toUInt32 >>> ((8 : Int32) &&& 31).toUInt32).toInt32) &&& (255 : Int32)).toUInt32.toUInt16.toUInt32.toInt32)), .val (.int (((p1.toUInt32 >>> ((16 : Int32) &&& 31).toUInt32).toInt32) &&& (3 : Int32)))] [(.int ((((p1.toUInt32 >>> ((8 : Int32) &&& 31).toUInt32).toInt32) &&& (255 : Int32)).toUInt32.toUInt16.toUInt32.toInt32)), (.int (1 : Int32)), (.ref b26), (.ref b26), (.ref b25), (.ref b25)]))
      obtain ⟨cl29, Ar29, q29, S29, M29, H29, Gx29⟩ := V28
      obtain ⟨T30, h30, X30, e30, W30, st30⟩ := stC X28 hx hZ e28 Ar29 (j := (1 : Int32)) (inb_of S29 ⟨by decide, by decide⟩) (g := (mkF m 73 #[.val (.int p1), .val (.int ((p1 &&& (255 : Int32)).toUInt32.toUInt16.toUInt32.toInt32)), .val (.int ((((p1.toUInt32 >>> ((8 : Int32) &&& 31).toUInt32).toInt32) &&& (255 : Int32)).toUInt32.toUInt16.toUInt32.toInt32)), .val (.int (((p1.toUInt32 >>> ((16 : Int32) &&& 31).toUInt32).toInt32) &&& (3 : Int32)))] [(.int ((((p1.toUInt32 >>> ((8 : Int32) &&& 31).toUInt32).toInt32) &&& (255 : Int32)).toUInt32.toUInt16.toUInt32.toInt32)), (.int (1 : Int32)), (.ref b26), (.ref b26), (.ref b25), (.ref b25)])) rfl rfl (hb hby d_method_2_code_73)
      have N30 := Fr.snoc X30 N28 (Nat.le_trans (Nat.le_trans Z0 E25.1) (Nat.le_of_eq g26.symm))
      have V30 : Arv Z h30 b26 k26 .char (2 : Int32) [(.int (nar .char ((p1 &&& (255 : Int32)).toUInt32.toUInt16.toUInt32.toInt32))), (.int (nar .char ((((p1.toUInt32 >>> ((8 : Int32) &&& 31).toUInt32).toInt32) &&& (255 : Int32)).toUInt32.toUInt16.toUInt32.toInt32)))] (.int (0 : Int32)) := Arv.set Ar29 q29 S29 M29 H29 Gx29 (fits_nar_char _) W30 1 rfl (Nat.le_of_ble_eq_true rfl)
      refine Ends.step st30 ?_
      show Ends _ _ _ _ (T30.setTop (mkF m 74 #[.val (.int p1), .val (.int ((p1 &&& (255 : Int32)).toUInt32.toUInt16.toUInt32.toInt32)), .val (.int ((((p1.toUInt32 >>> ((8 : Int32) &&& 31).toUInt32).toInt32) &&& (255 : Int32)).toUInt32.toUInt16.toUInt32.toInt32)), .val (.int (((p1.toUInt32 >>> ((16 : Int32) &&& 31).toUInt32).toInt32) &&& (3 : Int32)))] [(.ref b26), (.ref b25), (.ref b25)]))
      have F31 : Exa Z h30 b25 "java/lang/String" := (((A25.ext E26).wr W28).wr W30)
      have F32 : Fld Z h30 b25 "java/lang/String" "value" "[B" .null := ((((D25 (Or.inr (hw _ (List.mem_of_getElem? (i := 20) rfl))) pf_0).ext E26).other W28 (Or.inl (Nat.ne_of_lt (Nat.lt_of_lt_of_le A25.lt (Nat.le_of_eq g26.symm))))).other W30 (Or.inl (Nat.ne_of_lt (Nat.lt_of_lt_of_le A25.lt (Nat.le_of_eq g26.symm)))))
      have F33 : Fld Z h30 b25 "java/lang/String" "coder" "B" (.int (0 : Int32)) := ((((D25 (Or.inr (hw _ (List.mem_of_getElem? (i := 21) rfl))) pf_1).ext E26).other W28 (Or.inl (Nat.ne_of_lt (Nat.lt_of_lt_of_le A25.lt (Nat.le_of_eq g26.symm))))).other W30 (Or.inl (Nat.ne_of_lt (Nat.lt_of_lt_of_le A25.lt (Nat.le_of_eq g26.symm)))))
      have F34 : Old Z n0 h30 := ((((X00.ext E25).ext E26).wr W28 (Nat.le_trans (Nat.le_trans Z0 E25.1) (Nat.le_of_eq g26.symm))).wr W30 (Nat.le_trans (Nat.le_trans Z0 E25.1) (Nat.le_of_eq g26.symm)))
      have hp35 : ∀ c ∈ ([(nar .char ((p1 &&& (255 : Int32)).toUInt32.toUInt16.toUInt32.toInt32)), (nar .char ((((p1.toUInt32 >>> ((8 : Int32) &&& 31).toUInt32).toInt32) &&& (255 : Int32)).toUInt32.toUInt16.toUInt32.toInt32))] : List Int32), ¬ c < 0 ∧ ¬ (255 : Int32) < c := (List.forall_mem_cons.mpr ⟨(own_and255 _), (List.forall_mem_cons.mpr ⟨(own_and255 _), (fun _ q => nomatch q)⟩)⟩)
      obtain ⟨_, _, ⟨T36, L36, k36, n36⟩, -, X36, ⟨Lc36, hQ36, l36, y36, z36⟩, st36⟩ := X30.specialBack hx (y := (⟨"java/lang/String", "<init>", "([C)V"⟩ : MethodName)) rfl hown (mvT hZ (hw _ (List.mem_of_getElem? (i := 8) rfl))) (mvT hZ (hw _ (List.mem_of_getElem? (i := 9) rfl))) (mvT hZ (hw _ (List.mem_of_getElem? (i := 10) rfl))) (by decide) (StrChars.Road.backV (W := 1) hZ (own_hws hw) (kI := 4) (hw _ (List.mem_of_getElem? (i := 5) rfl)) (cs := ([(nar .char ((p1 &&& (255 : Int32)).toUInt32.toUInt16.toUInt32.toInt32)), (nar .char ((((p1.toUInt32 >>> ((8 : Int32) &&& 31).toUInt32).toInt32) &&& (255 : Int32)).toUInt32.toUInt16.toUInt32.toInt32))] : List Int32)) (bs := ([(nar .char ((p1 &&& (255 : Int32)).toUInt32.toUInt16.toUInt32.toInt32)), (nar .char ((((p1.toUInt32 >>> ((8 : Int32) &&& 31).toUInt32).toInt32) &&& (255 : Int32)).toUInt32.toUInt16.toUInt32.toInt32))] : List Int32).map (fun c => c.toInt8.toInt32)) (n := 2) (Nat.le_trans (Nat.le_trans Z0 (Nat.le_refl _)) (Nat.le_of_eq g25.symm)) (Nat.le_trans Z0 (Nat.le_trans (Nat.le_trans (Nat.le_trans E25.1 E26.1) (Nat.le_of_eq W28.size.symm)) (Nat.le_of_eq W30.size.symm))) F31 F32 F33 V30 (O2.ext F34.2) P5 rfl rfl (by decide) (by decide) hp35 rfl (by decide) (by decide)) (g := (mkF m 74 #[.val (.int p1), .val (.int ((p1 &&& (255 : Int32)).toUInt32.toUInt16.toUInt32.toInt32)), .val (.int ((((p1.toUInt32 >>> ((8 : Int32) &&& 31).toUInt32).toInt32) &&& (255 : Int32)).toUInt32.toUInt16.toUInt32.toInt32)), .val (.int (((p1.toUInt32 >>> ((16 : Int32) &&& 31).toUInt32).toInt32) &&& (3 : Int32)))] [(.ref b26), (.ref b25), (.ref b25)])) rfl (by rw [hml]; rfl) (Steps.refl _) (a := b25) (argsL := [(.ref b26)]) (rest := [(.ref b25)]) (lenOf pd_2 rfl) rfl (by show 2 * 0 + _ ≤ _; exact Nat.le_of_eq rfl) (hb hby d_method_2_code_74) (fun _ _ => ⟨rfl, e30, (by decide : 2 + 1 ≤ _), (by decide : 6 + 2 ≤ _)⟩)
      dsimp only [Pt.U, Pt.locs, Pt.cells, Pt.slots] at X36 l36 y36 z36 st36 hQ36
      subst l36 y36 z36
      obtain ⟨rfl, Nq36, K36, E36, C36, t36, kb36, u36, ut36, un36, Vv36, Av36⟩ := hQ36
      have N36 := Fr.app N30 Nq36
      refine Ends.go st36 ?_
      have K37 : Keep h0 T36.heap [] := ((((((Keep.refl h0 []).ext E25).ext E26).wr W28 (Or.inr (Nat.le_trans E25.1 (Nat.le_of_eq g26.symm)))).wr W30 (Or.inr (Nat.le_trans E25.1 (Nat.le_of_eq g26.symm)))).trans K36 (allS (Or.inr (Nat.le_trans (Nat.le_refl _) (Nat.le_of_eq g25.symm))) all0))
      show Ends _ _ _ _ (T36.setTop (mkF m 77 #[.val (.int p1), .val (.int ((p1 &&& (255 : Int32)).toUInt32.toUInt16.toUInt32.toInt32)), .val (.int ((((p1.toUInt32 >>> ((8 : Int32) &&& 31).toUInt32).toInt32) &&& (255 : Int32)).toUInt32.toUInt16.toUInt32.toInt32)), .val (.int (((p1.toUInt32 >>> ((16 : Int32) &&& 31).toUInt32).toInt32) &&& (3 : Int32)))] [(.ref b25)]))
      have CR38 := own_chrK CR0 K37
      exact own_finRW X36 hS0 hx hlk hh (own_hEL hw) (Nat.zero_le _) CR38 hZ Bd.returns rfl rfl (hb hby d_method_2_code_77) rfl ⟨b25, rfl, N36, ((Keep.refl h0 []).trans K37 all0), (Nat.le_trans (Nat.le_refl _) (Nat.le_of_eq g25.symm)), E36⟩ (by decide) (by decide)
def QrmAltI (Z : State) (a1 : Addr) (v0 : Value) (v1 : Value) (v2 : Value) (v3 : Value) (v4 : Value) (v5 : Value) (p7 : Int32) (v7 : Value) (v8 : Value) (v9 : Value) (v10 : Value) (v11 : Value) (v12 : Value) (h0 : Heap) (n0 : Nat) (v : Option Value) (h : Heap) (L : List Loc) : Prop := v = none ∧ Fr n0 L ∧ Keep h0 h [a1] ∧ (Exa Z h a1 "com/example/operatory/operatory/fhir/SearchValue$Alternative") ∧ (Fld Z h a1 "com/example/operatory/operatory/fhir/SearchValue$Alternative" "text" "Ljava/lang/String;" v0) ∧ (Fld Z h a1 "com/example/operatory/operatory/fhir/SearchValue$Alternative" "prefix" "Lcom/example/operatory/operatory/fhir/SearchValue$Prefix;" v1) ∧ (Fld Z h a1 "com/example/operatory/operatory/fhir/SearchValue$Alternative" "number" "Ljava/math/BigDecimal;" v2) ∧ (Fld Z h a1 "com/example/operatory/operatory/fhir/SearchValue$Alternative" "date" "Ljava/lang/String;" v3) ∧ (Fld Z h a1 "com/example/operatory/operatory/fhir/SearchValue$Alternative" "precision" "Lcom/example/operatory/operatory/fhir/SearchValue$Precision;" v4) ∧ (Fld Z h a1 "com/example/operatory/operatory/fhir/SearchValue$Alternative" "system" "Ljava/lang/String;" v5) ∧ (Fld Z h a1 "com/example/operatory/operatory/fhir/SearchValue$Alternative" "noSystem" "Z" (.int (nar .boolean p7))) ∧ (Fld Z h a1 "com/example/operatory/operatory/fhir/SearchValue$Alternative" "code" "Ljava/lang/String;" v7) ∧ (Fld Z h a1 "com/example/operatory/operatory/fhir/SearchValue$Alternative" "value" "Ljava/lang/String;" v8) ∧ (Fld Z h a1 "com/example/operatory/operatory/fhir/SearchValue$Alternative" "type" "Ljava/lang/String;" v9) ∧ (Fld Z h a1 "com/example/operatory/operatory/fhir/SearchValue$Alternative" "id" "Ljava/lang/String;" v10) ∧ (Fld Z h a1 "com/example/operatory/operatory/fhir/SearchValue$Alternative" "url" "Ljava/lang/String;" v11) ∧ (Fld Z h a1 "com/example/operatory/operatory/fhir/SearchValue$Alternative" "missing" "Ljava/lang/Boolean;" v12)
theorem ef_rmAltI (m : MethodId) (a1 : Addr) (v0 : Value) (v1 : Value) (v2 : Value) (v3 : Value) (v4 : Value) (v5 : Value) (p7 : Int32) (v7 : Value) (v8 : Value) (v9 : Value) (v10 : Value) (v11 : Value) (v12 : Value) (r_v0 : Value.isRef v0 = true) (r_v1 : Value.isRef v1 = true) (r_v2 : Value.isRef v2 = true) (r_v3 : Value.isRef v3 = true) (r_v4 : Value.isRef v4 = true) (r_v5 : Value.isRef v5 = true) (r_v7 : Value.isRef v7 = true) (r_v8 : Value.isRef v8 = true) (r_v9 : Value.isRef v9 = true) (r_v10 : Value.isRef v10 = true) (r_v11 : Value.isRef v11 = true) (r_v12 : Value.isRef v12 = true) : entryFrame m #[(.ref a1), v0, v1, v2, v3, v4, v5, (.int p7), v7, v8, v9, v10, v11, v12] 14 = mkF m 0 #[.val (.ref a1), .val v0, .val v1, .val v2, .val v3, .val v4, .val v5, .val (.int p7), .val v7, .val v8, .val v9, .val v10, .val v11, .val v12] [] := by first | (simp [entryFrame, mkF, argsToLocals, maxLocals, own_cR, own_cI, own_cN, own_cJ, XT.cat1 r_v0, XT.cat1 r_v1, XT.cat1 r_v2, XT.cat1 r_v3, XT.cat1 r_v4, XT.cat1 r_v5, XT.cat1 r_v7, XT.cat1 r_v8, XT.cat1 r_v9, XT.cat1 r_v10, XT.cat1 r_v11, XT.cat1 r_v12]; done) | rfl
set_option maxRecDepth 65536 in
set_option maxHeartbeats 40000000 in
theorem rmAltI (l : Launch) (Z : State) (a0 : Array Value) (hw : ∀ d ∈ tables_1, d.before a0 Z = true) (ws : List Jvm.Cond) (a1 : Addr) (v0 : Value) (v1 : Value) (v2 : Value) (v3 : Value) (v4 : Value) (v5 : Value) (p7 : Int32) (v7 : Value) (v8 : Value) (v9 : Value) (v10 : Value) (v11 : Value) (v12 : Value) (h0 : Heap) (n0 : Nat) (Z0 : n0 ≤ h0.size) (G1 : Int32) (O2 : Sta Z Z.heap "java/lang/String" "COMPACT_STRINGS" "Z" (.int G1)) (P5 : ¬ (G1 = (0 : Int32))) (eA : Addr) (SE : Sta Z Z.heap "java/util/Optional" "EMPTY" "Ljava/util/Optional;" (.ref eA)) (XE : Exa Z Z.heap eA "java/util/Optional") (FE : Fld Z Z.heap eA "java/util/Optional" "value" "Ljava/lang/Object;" .null) (X00 : Old Z n0 h0) (r_v0 : Value.isRef v0 = true) (r_v1 : Value.isRef v1 = true) (r_v2 : Value.isRef v2 = true) (r_v3 : Value.isRef v3 = true) (r_v4 : Value.isRef v4 = true) (r_v5 : Value.isRef v5 = true) (r_v7 : Value.isRef v7 = true) (r_v8 : Value.isRef v8 = true) (r_v9 : Value.isRef v9 = true) (r_v10 : Value.isRef v10 = true) (r_v11 : Value.isRef v11 = true) (r_v12 : Value.isRef v12 = true) (p_Exa_a1 : Exa Z h0 a1 "com/example/operatory/operatory/fhir/SearchValue$Alternative") (p_Fld_a1_text : Fld Z h0 a1 "com/example/operatory/operatory/fhir/SearchValue$Alternative" "text" "Ljava/lang/String;" .null) (p_Fld_a1_prefix : Fld Z h0 a1 "com/example/operatory/operatory/fhir/SearchValue$Alternative" "prefix" "Lcom/example/operatory/operatory/fhir/SearchValue$Prefix;" .null) (p_Fld_a1_number : Fld Z h0 a1 "com/example/operatory/operatory/fhir/SearchValue$Alternative" "number" "Ljava/math/BigDecimal;" .null) (p_Fld_a1_date : Fld Z h0 a1 "com/example/operatory/operatory/fhir/SearchValue$Alternative" "date" "Ljava/lang/String;" .null) (p_Fld_a1_precision : Fld Z h0 a1 "com/example/operatory/operatory/fhir/SearchValue$Alternative" "precision" "Lcom/example/operatory/operatory/fhir/SearchValue$Precision;" .null) (p_Fld_a1_system : Fld Z h0 a1 "com/example/operatory/operatory/fhir/SearchValue$Alternative" "system" "Ljava/lang/String;" .null) (p_Fld_a1_noSystem : Fld Z h0 a1 "com/example/operatory/operatory/fhir/SearchValue$Alternative" "noSystem" "Z" (.int (0 : Int32))) (p_Fld_a1_code : Fld Z h0 a1 "com/example/operatory/operatory/fhir/SearchValue$Alternative" "code" "Ljava/lang/String;" .null) (p_Fld_a1_value : Fld Z h0 a1 "com/example/operatory/operatory/fhir/SearchValue$Alternative" "value" "Ljava/lang/String;" .null) (p_Fld_a1_type : Fld Z h0 a1 "com/example/operatory/operatory/fhir/SearchValue$Alternative" "type" "Ljava/lang/String;" .null) (p_Fld_a1_id : Fld Z h0 a1 "com/example/operatory/operatory/fhir/SearchValue$Alternative" "id" "Ljava/lang/String;" .null) (p_Fld_a1_url : Fld Z h0 a1 "com/example/operatory/operatory/fhir/SearchValue$Alternative" "url" "Ljava/lang/String;" .null) (p_Fld_a1_missing : Fld Z h0 a1 "com/example/operatory/operatory/fhir/SearchValue$Alternative" "missing" "Ljava/lang/Boolean;" .null) (ge1 : n0 ≤ a1) :
    MetFree l (⟨"com/example/operatory/operatory/fhir/SearchValue$Alternative", "<init>", "(Ljava/lang/String;Lcom/example/operatory/operatory/fhir/SearchValue$Prefix;Ljava/math/BigDecimal;Ljava/lang/String;Lcom/example/operatory/operatory/fhir/SearchValue$Precision;Ljava/lang/String;ZLjava/lang/String;Ljava/lang/String;Ljava/lang/String;Ljava/lang/String;Ljava/lang/String;Ljava/lang/Boolean;)V"⟩ : MethodName) (head1 (Jvm.Cond.code (⟨"com/example/operatory/operatory/fhir/SearchValue$Alternative", "<init>", "(Ljava/lang/String;Lcom/example/operatory/operatory/fhir/SearchValue$Prefix;Ljava/math/BigDecimal;Ljava/lang/String;Lcom/example/operatory/operatory/fhir/SearchValue$Precision;Ljava/lang/String;ZLjava/lang/String;Ljava/lang/String;Ljava/lang/String;Ljava/lang/String;Ljava/lang/String;Ljava/lang/Boolean;)V"⟩ : MethodName) prog_5_method_1_code 14 (Option.none : Option Jvm.ClassFile.FieldType) :: ws) ({ frames := 1, cells := 0, slots := 0, locals := 12 } : Room)) (fun a U => a = #[(.ref a1), v0, v1, v2, v3, v4, v5, (.int p7), v7, v8, v9, v10, v11, v12] ∧ Z.Warmed39 U.vm ∧ U.heap = h0) (fun _ _ _ _ _ => True) (fun _ U o U' => ∃ v L, o = .returned v ∧ QrmAltI Z a1 v0 v1 v2 v3 v4 v5 p7 v7 v8 v9 v10 v11 v12 h0 n0 v U'.heap L ∧ FrameEnd U o U' L ({ frames := 1, cells := 0, slots := 0, locals := 12 } : Room).cells ({ frames := 1, cells := 0, slots := 0, locals := 12 } : Room).slots) := by
  refine MetFree.of_bodySF (plainFor_of_name pn_com_example_operatory_operatory_fhir_SearchValue_Alternative) hisR ?_
  intro p e s m args below meth c s₁ Bd hml0 hP hK
  obtain ⟨rfl, hZ, hh⟩ := hP
  have hx := Bd.exec
  have hby := Bd.bytes
  have hml : c.maxLocals = 14 := hml0
  have hown : s.vm.findClass "com/example/operatory/operatory/fhir/SearchValue$Alternative" = some m.cls := findClass_of_methodNamed Bd.named
  have hnm := (name_of_methodNamed Bd.named Bd.method).1
  have hlk : meth.locks = false := BodyLoose.notSynchronized Bd
  have X0 : Stand p l e ({ frames := 1, cells := 0, slots := 0, locals := 12 } : Room) s m #[(.ref a1), v0, v1, v2, v3, v4, v5, (.int p7), v7, v8, v9, v10, v11, v12] below meth c s₁ [] 0 0 := Stand.of_body Bd
  have e0 : s₁.heap = h0 := by rw [← hh, Bd.state]; rfl
  have N0 := Fr.nil n0
  show Ends p.tables e below (fun o U' => ∃ v L, o = .returned v ∧ QrmAltI Z a1 v0 v1 v2 v3 v4 v5 p7 v7 v8 v9 v10 v11 v12 h0 n0 v U'.heap L ∧ FrameEnd s o U' L ({ frames := 1, cells := 0, slots := 0, locals := 12 } : Room).cells ({ frames := 1, cells := 0, slots := 0, locals := 12 } : Room).slots) (s₁.setTop (entryFrame m #[(.ref a1), v0, v1, v2, v3, v4, v5, (.int p7), v7, v8, v9, v10, v11, v12] 14))
  refine Ends.step (fun t k => castTop (ef_rmAltI m a1 v0 v1 v2 v3 v4 v5 p7 v7 v8 v9 v10 v11 v12 r_v0 r_v1 r_v2 r_v3 r_v4 r_v5 r_v7 r_v8 r_v9 r_v10 r_v11 r_v12) k) ?_
  show Ends _ _ _ _ (s₁.setTop (mkF m 0 #[.val (.ref a1), .val v0, .val v1, .val v2, .val v3, .val v4, .val v5, .val (.int p7), .val v7, .val v8, .val v9, .val v10, .val v11, .val v12] []))
  refine Ends.step (fun t k => XS.aloadN X0.here hx rfl (hb hby d_prog_5_method_1_code_0) rfl rfl k) ?_
  show Ends _ _ _ _ (s₁.setTop (mkF m 1 #[.val (.ref a1), .val v0, .val v1, .val v2, .val v3, .val v4, .val v5, .val (.int p7), .val v7, .val v8, .val v9, .val v10, .val v11, .val v12] [(.ref a1)]))
  obtain ⟨T1, X1, e1, st1⟩ := initO X0 hx hZ hown (hw _ (List.mem_of_getElem? (i := 35) rfl)) (hw _ (List.mem_of_getElem? (i := 16) rfl)) (hw _ (List.mem_of_getElem? (i := 17) rfl)) e0 (g := (mkF m 1 #[.val (.ref a1), .val v0, .val v1, .val v2, .val v3, .val v4, .val v5, .val (.int p7), .val v7, .val v8, .val v9, .val v10, .val v11, .val v12] [(.ref a1)])) rfl (by rw [hml]; rfl) rfl (hb hby d_prog_5_method_1_code_1) (by decide) (W := 0) (by show 2 * 0 + _ ≤ _; exact Nat.le_of_eq rfl) (by decide)
  refine Ends.step st1 ?_
  show Ends _ _ _ _ (T1.setTop (mkF m 4 #[.val (.ref a1), .val v0, .val v1, .val v2, .val v3, .val v4, .val v5, .val (.int p7), .val v7, .val v8, .val v9, .val v10, .val v11, .val v12] []))
  refine Ends.step (fun t k => XS.aloadN X1.here hx rfl (hb hby d_prog_5_method_1_code_4) rfl rfl k) ?_
  show Ends _ _ _ _ (T1.setTop (mkF m 5 #[.val (.ref a1), .val v0, .val v1, .val v2, .val v3, .val v4, .val v5, .val (.int p7), .val v7, .val v8, .val v9, .val v10, .val v11, .val v12] [(.ref a1)]))
  refine Ends.step (fun t k => XS.aloadN X1.here hx rfl (hb hby d_prog_5_method_1_code_5) rfl r_v0 k) ?_
  show Ends _ _ _ _ (T1.setTop (mkF m 6 #[.val (.ref a1), .val v0, .val v1, .val v2, .val v3, .val v4, .val v5, .val (.int p7), .val v7, .val v8, .val v9, .val v10, .val v11, .val v12] [v0, (.ref a1)]))
  obtain ⟨T2, h2, X2, e2, W2, st2⟩ := putF X1 hx hZ hown (host := "") (Or.inl (hw _ (List.mem_of_getElem? (i := 36) rfl))) Via.refl e1 p_Fld_a1_text p_Exa_a1 (Or.inr ⟨(hw _ (List.mem_of_getElem? (i := 37) rfl)), rfl, hnm⟩) (hw _ (List.mem_of_getElem? (i := 31) rfl)) pf_3 (own_narrow_ref r_v0 rfl) (own_fits_ref r_v0 rfl) (g := (mkF m 6 #[.val (.ref a1), .val v0, .val v1, .val v2, .val v3, .val v4, .val v5, .val (.int p7), .val v7, .val v8, .val v9, .val v10, .val v11, .val v12] [v0, (.ref a1)])) rfl rfl (hb hby d_prog_5_method_1_code_6)
  have N2 := Fr.snoc X2 N0 ge1
  have Fw2 : Fld Z h2 a1 "com/example/operatory/operatory/fhir/SearchValue$Alternative" "text" "Ljava/lang/String;" v0 := p_Fld_a1_text.same W2
  refine Ends.step st2 ?_
  show Ends _ _ _ _ (T2.setTop (mkF m 9 #[.val (.ref a1), .val v0, .val v1, .val v2, .val v3, .val v4, .val v5, .val (.int p7), .val v7, .val v8, .val v9, .val v10, .val v11, .val v12] []))
  refine Ends.step (fun t k => XS.aloadN X2.here hx rfl (hb hby d_prog_5_method_1_code_9) rfl rfl k) ?_
  show Ends _ _ _ _ (T2.setTop (mkF m 10 #[.val (.ref a1), .val v0, .val v1, .val v2, .val v3, .val v4, .val v5, .val (.int p7), .val v7, .val v8, .val v9, .val v10, .val v11, .val v12] [(.ref a1)]))
  refine Ends.step (fun t k => XS.aloadN X2.here hx rfl (hb hby d_prog_5_method_1_code_10) rfl r_v1 k) ?_
  show Ends _ _ _ _ (T2.setTop (mkF m 11 #[.val (.ref a1), .val v0, .val v1, .val v2, .val v3, .val v4, .val v5, .val (.int p7), .val v7, .val v8, .val v9, .val v10, .val v11, .val v12] [v1, (.ref a1)]))
  have F3 : Exa Z h2 a1 "com/example/operatory/operatory/fhir/SearchValue$Alternative" := (p_Exa_a1.wr W2)
  have F4 : Fld Z h2 a1 "com/example/operatory/operatory/fhir/SearchValue$Alternative" "prefix" "Lcom/example/operatory/operatory/fhir/SearchValue$Prefix;" .null := (p_Fld_a1_prefix.other W2 (Or.inr (sn_com_example_operatory_operatory_fhir_SearchValue_Alternative_prefix__text hw)))
  obtain ⟨T5, h5, X5, e5, W5, st5⟩ := putF X2 hx hZ hown (host := "") (Or.inl (hw _ (List.mem_of_getElem? (i := 38) rfl))) Via.refl e2 F4 F3 (Or.inr ⟨(hw _ (List.mem_of_getElem? (i := 39) rfl)), rfl, hnm⟩) (hw _ (List.mem_of_getElem? (i := 31) rfl)) pf_4 (own_narrow_ref r_v1 rfl) (own_fits_ref r_v1 rfl) (g := (mkF m 11 #[.val (.ref a1), .val v0, .val v1, .val v2, .val v3, .val v4, .val v5, .val (.int p7), .val v7, .val v8, .val v9, .val v10, .val v11, .val v12] [v1, (.ref a1)])) rfl rfl (hb hby d_prog_5_method_1_code_11)
  have N5 := Fr.snoc X5 N2 ge1
  have Fw5 : Fld Z h5 a1 "com/example/operatory/operatory/fhir/SearchValue$Alternative" "prefix" "Lcom/example/operatory/operatory/fhir/SearchValue$Prefix;" v1 := F4.same W5
  refine Ends.step st5 ?_
  show Ends _ _ _ _ (T5.setTop (mkF m 14 #[.val (.ref a1), .val v0, .val v1, .val v2, .val v3, .val v4, .val v5, .val (.int p7), .val v7, .val v8, .val v9, .val v10, .val v11, .val v12] []))
  refine Ends.step (fun t k => XS.aloadN X5.here hx rfl (hb hby d_prog_5_method_1_code_14) rfl rfl k) ?_
  show Ends _ _ _ _ (T5.setTop (mkF m 15 #[.val (.ref a1), .val v0, .val v1, .val v2, .val v3, .val v4, .val v5, .val (.int p7), .val v7, .val v8, .val v9, .val v10, .val v11, .val v12] [(.ref a1)]))
  refine Ends.step (fun t k => XS.aloadN X5.here hx rfl (hb hby d_prog_5_method_1_code_15) rfl r_v2 k) ?_
  show Ends _ _ _ _ (T5.setTop (mkF m 16 #[.val (.ref a1), .val v0, .val v1, .val v2, .val v3, .val v4, .val v5, .val (.int p7), .val v7, .val v8, .val v9, .val v10, .val v11, .val v12] [v2, (.ref a1)]))
  have F6 : Exa Z h5 a1 "com/example/operatory/operatory/fhir/SearchValue$Alternative" := (F3.wr W5)
  have F7 : Fld Z h5 a1 "com/example/operatory/operatory/fhir/SearchValue$Alternative" "number" "Ljava/math/BigDecimal;" .null := ((p_Fld_a1_number.other W2 (Or.inr (sn_com_example_operatory_operatory_fhir_SearchValue_Alternative_number__text hw))).other W5 (Or.inr (sn_com_example_operatory_operatory_fhir_SearchValue_Alternative_number__prefix hw)))
  obtain ⟨T8, h8, X8, e8, W8, st8⟩ := putF X5 hx hZ hown (host := "") (Or.inl (hw _ (List.mem_of_getElem? (i := 40) rfl))) Via.refl e5 F7 F6 (Or.inr ⟨(hw _ (List.mem_of_getElem? (i := 41) rfl)), rfl, hnm⟩) (hw _ (List.mem_of_getElem? (i := 31) rfl)) pf_5 (own_narrow_ref r_v2 rfl) (own_fits_ref r_v2 rfl) (g := (mkF m 16 #[.val (.ref a1), .val v0, .val v1, .val v2, .val v3, .val v4, .val v5, .val (.int p7), .val v7, .val v8, .val v9, .val v10, .val v11, .val v12] [v2, (.ref a1)])) rfl rfl (hb hby d_prog_5_method_1_code_16)
  have N8 := Fr.snoc X8 N5 ge1
  have Fw8 : Fld Z h8 a1 "com/example/operatory/operatory/fhir/SearchValue$Alternative" "number" "Ljava/math/BigDecimal;" v2 := F7.same W8
  refine Ends.step st8 ?_
  show Ends _ _ _ _ (T8.setTop (mkF m 19 #[.val (.ref a1), .val v0, .val v1, .val v2, .val v3, .val v4, .val v5, .val (.int p7), .val v7, .val v8, .val v9, .val v10, .val v11, .val v12] []))
  refine Ends.step (fun t k => XS.aloadN X8.here hx rfl (hb hby d_prog_5_method_1_code_19) rfl rfl k) ?_
  show Ends _ _ _ _ (T8.setTop (mkF m 20 #[.val (.ref a1), .val v0, .val v1, .val v2, .val v3, .val v4, .val v5, .val (.int p7), .val v7, .val v8, .val v9, .val v10, .val v11, .val v12] [(.ref a1)]))
  refine Ends.step (fun t k => XS.aload X8.here hx rfl (hb hby d_prog_5_method_1_code_20) rfl r_v3 k) ?_
  show Ends _ _ _ _ (T8.setTop (mkF m 22 #[.val (.ref a1), .val v0, .val v1, .val v2, .val v3, .val v4, .val v5, .val (.int p7), .val v7, .val v8, .val v9, .val v10, .val v11, .val v12] [v3, (.ref a1)]))
  have F9 : Exa Z h8 a1 "com/example/operatory/operatory/fhir/SearchValue$Alternative" := (F6.wr W8)
  have F10 : Fld Z h8 a1 "com/example/operatory/operatory/fhir/SearchValue$Alternative" "date" "Ljava/lang/String;" .null := (((p_Fld_a1_date.other W2 (Or.inr (sn_com_example_operatory_operatory_fhir_SearchValue_Alternative_date__text hw))).other W5 (Or.inr (sn_com_example_operatory_operatory_fhir_SearchValue_Alternative_date__prefix hw))).other W8 (Or.inr (sn_com_example_operatory_operatory_fhir_SearchValue_Alternative_date__number hw)))
  obtain ⟨T11, h11, X11, e11, W11, st11⟩ := putF X8 hx hZ hown (host := "") (Or.inl (hw _ (List.mem_of_getElem? (i := 42) rfl))) Via.refl e8 F10 F9 (Or.inr ⟨(hw _ (List.mem_of_getElem? (i := 43) rfl)), rfl, hnm⟩) (hw _ (List.mem_of_getElem? (i := 31) rfl)) pf_3 (own_narrow_ref r_v3 rfl) (own_fits_ref r_v3 rfl) (g := (mkF m 22 #[.val (.ref a1), .val v0, .val v1, .val v2, .val v3, .val v4, .val v5, .val (.int p7), .val v7, .val v8, .val v9, .val v10, .val v11, .val v12] [v3, (.ref a1)])) rfl rfl (hb hby d_prog_5_method_1_code_22)
  have N11 := Fr.snoc X11 N8 ge1
  have Fw11 : Fld Z h11 a1 "com/example/operatory/operatory/fhir/SearchValue$Alternative" "date" "Ljava/lang/String;" v3 := F10.same W11
  refine Ends.step st11 ?_
  show Ends _ _ _ _ (T11.setTop (mkF m 25 #[.val (.ref a1), .val v0, .val v1, .val v2, .val v3, .val v4, .val v5, .val (.int p7), .val v7, .val v8, .val v9, .val v10, .val v11, .val v12] []))
  refine Ends.step (fun t k => XS.aloadN X11.here hx rfl (hb hby d_prog_5_method_1_code_25) rfl rfl k) ?_
  show Ends _ _ _ _ (T11.setTop (mkF m 26 #[.val (.ref a1), .val v0, .val v1, .val v2, .val v3, .val v4, .val v5, .val (.int p7), .val v7, .val v8, .val v9, .val v10, .val v11, .val v12] [(.ref a1)]))
  refine Ends.step (fun t k => XS.aload X11.here hx rfl (hb hby d_prog_5_method_1_code_26) rfl r_v4 k) ?_
  show Ends _ _ _ _ (T11.setTop (mkF m 28 #[.val (.ref a1), .val v0, .val v1, .val v2, .val v3, .val v4, .val v5, .val (.int p7), .val v7, .val v8, .val v9, .val v10, .val v11, .val v12] [v4, (.ref a1)]))
  have F12 : Exa Z h11 a1 "com/example/operatory/operatory/fhir/SearchValue$Alternative" := (F9.wr W11)
  have F13 : Fld Z h11 a1 "com/example/operatory/operatory/fhir/SearchValue$Alternative" "precision" "Lcom/example/operatory/operatory/fhir/SearchValue$Precision;" .null := ((((p_Fld_a1_precision.other W2 (Or.inr (sn_com_example_operatory_operatory_fhir_SearchValue_Alternative_precision__text hw))).other W5 (Or.inr (sn_com_example_operatory_operatory_fhir_SearchValue_Alternative_precision__prefix hw))).other W8 (Or.inr (sn_com_example_operatory_operatory_fhir_SearchValue_Alternative_precision__number hw))).other W11 (Or.inr (sn_com_example_operatory_operatory_fhir_SearchValue_Alternative_precision__date hw)))
  obtain ⟨T14, h14, X14, e14, W14, st14⟩ := putF X11 hx hZ hown (host := "") (Or.inl (hw _ (List.mem_of_getElem? (i := 44) rfl))) Via.refl e11 F13 F12 (Or.inr ⟨(hw _ (List.mem_of_getElem? (i := 45) rfl)), rfl, hnm⟩) (hw _ (List.mem_of_getElem? (i := 31) rfl)) pf_6 (own_narrow_ref r_v4 rfl) (own_fits_ref r_v4 rfl) (g := (mkF m 28 #[.val (.ref a1), .val v0, .val v1, .val v2, .val v3, .val v4, .val v5, .val (.int p7), .val v7, .val v8, .val v9, .val v10, .val v11, .val v12] [v4, (.ref a1)])) rfl rfl (hb hby d_prog_5_method_1_code_28)
  have N14 := Fr.snoc X14 N11 ge1
  have Fw14 : Fld Z h14 a1 "com/example/operatory/operatory/fhir/SearchValue$Alternative" "precision" "Lcom/example/operatory/operatory/fhir/SearchValue$Precision;" v4 := F13.same W14
  refine Ends.step st14 ?_
  show Ends _ _ _ _ (T14.setTop (mkF m 31 #[.val (.ref a1), .val v0, .val v1, .val v2, .val v3, .val v4, .val v5, .val (.int p7), .val v7, .val v8, .val v9, .val v10, .val v11, .val v12] []))
  refine Ends.step (fun t k => XS.aloadN X14.here hx rfl (hb hby d_prog_5_method_1_code_31) rfl rfl k) ?_
  show Ends _ _ _ _ (T14.setTop (mkF m 32 #[.val (.ref a1), .val v0, .val v1, .val v2, .val v3, .val v4, .val v5, .val (.int p7), .val v7, .val v8, .val v9, .val v10, .val v11, .val v12] [(.ref a1)]))
  refine Ends.step (fun t k => XS.aload X14.here hx rfl (hb hby d_prog_5_method_1_code_32) rfl r_v5 k) ?_
  show Ends _ _ _ _ (T14.setTop (mkF m 34 #[.val (.ref a1), .val v0, .val v1, .val v2, .val v3, .val v4, .val v5, .val (.int p7), .val v7, .val v8, .val v9, .val v10, .val v11, .val v12] [v5, (.ref a1)]))
  have F15 : Exa Z h14 a1 "com/example/operatory/operatory/fhir/SearchValue$Alternative" := (F12.wr W14)
  have F16 : Fld Z h14 a1 "com/example/operatory/operatory/fhir/SearchValue$Alternative" "system" "Ljava/lang/String;" .null := (((((p_Fld_a1_system.other W2 (Or.inr (sn_com_example_operatory_operatory_fhir_SearchValue_Alternative_system__text hw))).other W5 (Or.inr (sn_com_example_operatory_operatory_fhir_SearchValue_Alternative_system__prefix hw))).other W8 (Or.inr (sn_com_example_operatory_operatory_fhir_SearchValue_Alternative_system__number hw))).other W11 (Or.inr (sn_com_example_operatory_operatory_fhir_SearchValue_Alternative_system__date hw))).other W14 (Or.inr (sn_com_example_operatory_operatory_fhir_SearchValue_Alternative_system__precision hw)))
  obtain ⟨T17, h17, X17, e17, W17, st17⟩ := putF X14 hx hZ hown (host := "") (Or.inl (hw _ (List.mem_of_getElem? (i := 46) rfl))) Via.refl e14 F16 F15 (Or.inr ⟨(hw _ (List.mem_of_getElem? (i := 47) rfl)), rfl, hnm⟩) (hw _ (List.mem_of_getElem? (i := 31) rfl)) pf_3 (own_narrow_ref r_v5 rfl) (own_fits_ref r_v5 rfl) (g := (mkF m 34 #[.val (.ref a1), .val v0, .val v1, .val v2, .val v3, .val v4, .val v5, .val (.int p7), .val v7, .val v8, .val v9, .val v10, .val v11, .val v12] [v5, (.ref a1)])) rfl rfl (hb hby d_prog_5_method_1_code_34)
  have N17 := Fr.snoc X17 N14 ge1
  have Fw17 : Fld Z h17 a1 "com/example/operatory/operatory/fhir/SearchValue$Alternative" "system" "Ljava/lang/String;" v5 := F16.same W17
  refine Ends.step st17 ?_
  show Ends _ _ _ _ (T17.setTop (mkF m 37 #[.val (.ref a1), .val v0, .val v1, .val v2, .val v3, .val v4, .val v5, .val (.int p7), .val v7, .val v8, .val v9, .val v10, .val v11, .val v12] []))
  refine Ends.step (fun t k => XS.aloadN X17.here hx rfl (hb hby d_prog_5_method_1_code_37) rfl rfl k) ?_
  show Ends _ _ _ _ (T17.setTop (mkF m 38 #[.val (.ref a1), .val v0, .val v1, .val v2, .val v3, .val v4, .val v5, .val (.int p7), .val v7, .val v8, .val v9, .val v10, .val v11, .val v12] [(.ref a1)]))
  refine Ends.step (fun t k => XS.iload X17.here hx rfl (hb hby d_prog_5_method_1_code_38) rfl k) ?_
  show Ends _ _ _ _ (T17.setTop (mkF m 40 #[.val (.ref a1), .val v0, .val v1, .val v2, .val v3, .val v4, .val v5, .val (.int p7), .val v7, .val v8, .val v9, .val v10, .val v11, .val v12] [(.int p7), (.ref a1)]))
  have F18 : Exa Z h17 a1 "com/example/operatory/operatory/fhir/SearchValue$Alternative" := (F15.wr W17)
  have F19 : Fld Z h17 a1 "com/example/operatory/operatory/fhir/SearchValue$Alternative" "noSystem" "Z" (.int (0 : Int32)) := ((((((p_Fld_a1_noSystem.other W2 (Or.inr (sn_com_example_operatory_operatory_fhir_SearchValue_Alternative_noSystem__text hw))).other W5 (Or.inr (sn_com_example_operatory_operatory_fhir_SearchValue_Alternative_noSystem__prefix hw))).other W8 (Or.inr (sn_com_example_operatory_operatory_fhir_SearchValue_Alternative_noSystem__number hw))).other W11 (Or.inr (sn_com_example_operatory_operatory_fhir_SearchValue_Alternative_noSystem__date hw))).other W14 (Or.inr (sn_com_example_operatory_operatory_fhir_SearchValue_Alternative_noSystem__precision hw))).other W17 (Or.inr (sn_com_example_operatory_operatory_fhir_SearchValue_Alternative_noSystem__system hw)))
  obtain ⟨T20, h20, X20, e20, W20, st20⟩ := putFN X17 hx hZ hown (hw _ (List.mem_of_getElem? (i := 48) rfl)) Via.refl e17 F19 F18 (Or.inr ⟨(hw _ (List.mem_of_getElem? (i := 49) rfl)), rfl, hnm⟩) (hw _ (List.mem_of_getElem? (i := 31) rfl)) (v' := (.int (nar .boolean p7))) pf_7 rfl (fits_nar_bool _) (g := (mkF m 40 #[.val (.ref a1), .val v0, .val v1, .val v2, .val v3, .val v4, .val v5, .val (.int p7), .val v7, .val v8, .val v9, .val v10, .val v11, .val v12] [(.int p7), (.ref a1)])) rfl rfl (hb hby d_prog_5_method_1_code_40)
  have N20 := Fr.snoc X20 N17 ge1
  have Fw20 : Fld Z h20 a1 "com/example/operatory/operatory/fhir/SearchValue$Alternative" "noSystem" "Z" (.int (nar .boolean p7)) := F19.same W20
  refine Ends.step st20 ?_
  show Ends _ _ _ _ (T20.setTop (mkF m 43 #[.val (.ref a1), .val v0, .val v1, .val v2, .val v3, .val v4, .val v5, .val (.int p7), .val v7, .val v8, .val v9, .val v10, .val v11, .val v12] []))
  refine Ends.step (fun t k => XS.aloadN X20.here hx rfl (hb hby d_prog_5_method_1_code_43) rfl rfl k) ?_
  show Ends _ _ _ _ (T20.setTop (mkF m 44 #[.val (.ref a1), .val v0, .val v1, .val v2, .val v3, .val v4, .val v5, .val (.int p7), .val v7, .val v8, .val v9, .val v10, .val v11, .val v12] [(.ref a1)]))
  refine Ends.step (fun t k => XS.aload X20.here hx rfl (hb hby d_prog_5_method_1_code_44) rfl r_v7 k) ?_
  show Ends _ _ _ _ (T20.setTop (mkF m 46 #[.val (.ref a1), .val v0, .val v1, .val v2, .val v3, .val v4, .val v5, .val (.int p7), .val v7, .val v8, .val v9, .val v10, .val v11, .val v12] [v7, (.ref a1)]))
  have F21 : Exa Z h20 a1 "com/example/operatory/operatory/fhir/SearchValue$Alternative" := (F18.wr W20)
  have F22 : Fld Z h20 a1 "com/example/operatory/operatory/fhir/SearchValue$Alternative" "code" "Ljava/lang/String;" .null := (((((((p_Fld_a1_code.other W2 (Or.inr (sn_com_example_operatory_operatory_fhir_SearchValue_Alternative_code__text hw))).other W5 (Or.inr (sn_com_example_operatory_operatory_fhir_SearchValue_Alternative_code__prefix hw))).other W8 (Or.inr (sn_com_example_operatory_operatory_fhir_SearchValue_Alternative_code__number hw))).other W11 (Or.inr (sn_com_example_operatory_operatory_fhir_SearchValue_Alternative_code__date hw))).other W14 (Or.inr (sn_com_example_operatory_operatory_fhir_SearchValue_Alternative_code__precision hw))).other W17 (Or.inr (sn_com_example_operatory_operatory_fhir_SearchValue_Alternative_code__system hw))).other W20 (Or.inr (sn_com_example_operatory_operatory_fhir_SearchValue_Alternative_code__noSystem hw)))
  obtain ⟨T23, h23, X23, e23, W23, st23⟩ := putF X20 hx hZ hown (host := "") (Or.inl (hw _ (List.mem_of_getElem? (i := 50) rfl))) Via.refl e20 F22 F21 (Or.inr ⟨(hw _ (List.mem_of_getElem? (i := 51) rfl)), rfl, hnm⟩) (hw _ (List.mem_of_getElem? (i := 31) rfl)) pf_3 (own_narrow_ref r_v7 rfl) (own_fits_ref r_v7 rfl) (g := (mkF m 46 #[.val (.ref a1), .val v0, .val v1, .val v2, .val v3, .val v4, .val v5, .val (.int p7), .val v7, .val v8, .val v9, .val v10, .val v11, .val v12] [v7, (.ref a1)])) rfl rfl (hb hby d_prog_5_method_1_code_46)
  have N23 := Fr.snoc X23 N20 ge1
  have Fw23 : Fld Z h23 a1 "com/example/operatory/operatory/fhir/SearchValue$Alternative" "code" "Ljava/lang/String;" v7 := F22.same W23
  refine Ends.step st23 ?_
  show Ends _ _ _ _ (T23.setTop (mkF m 49 #[.val (.ref a1), .val v0, .val v1, .val v2, .val v3, .val v4, .val v5, .val (.int p7), .val v7, .val v8, .val v9, .val v10, .val v11, .val v12] []))
  refine Ends.step (fun t k => XS.aloadN X23.here hx rfl (hb hby d_prog_5_method_1_code_49) rfl rfl k) ?_
  show Ends _ _ _ _ (T23.setTop (mkF m 50 #[.val (.ref a1), .val v0, .val v1, .val v2, .val v3, .val v4, .val v5, .val (.int p7), .val v7, .val v8, .val v9, .val v10, .val v11, .val v12] [(.ref a1)]))
  refine Ends.step (fun t k => XS.aload X23.here hx rfl (hb hby d_prog_5_method_1_code_50) rfl r_v8 k) ?_
  show Ends _ _ _ _ (T23.setTop (mkF m 52 #[.val (.ref a1), .val v0, .val v1, .val v2, .val v3, .val v4, .val v5, .val (.int p7), .val v7, .val v8, .val v9, .val v10, .val v11, .val v12] [v8, (.ref a1)]))
  have F24 : Exa Z h23 a1 "com/example/operatory/operatory/fhir/SearchValue$Alternative" := (F21.wr W23)
  have F25 : Fld Z h23 a1 "com/example/operatory/operatory/fhir/SearchValue$Alternative" "value" "Ljava/lang/String;" .null := ((((((((p_Fld_a1_value.other W2 (Or.inr (sn_com_example_operatory_operatory_fhir_SearchValue_Alternative_value__text hw))).other W5 (Or.inr (sn_com_example_operatory_operatory_fhir_SearchValue_Alternative_value__prefix hw))).other W8 (Or.inr (sn_com_example_operatory_operatory_fhir_SearchValue_Alternative_value__number hw))).other W11 (Or.inr (sn_com_example_operatory_operatory_fhir_SearchValue_Alternative_value__date hw))).other W14 (Or.inr (sn_com_example_operatory_operatory_fhir_SearchValue_Alternative_value__precision hw))).other W17 (Or.inr (sn_com_example_operatory_operatory_fhir_SearchValue_Alternative_value__system hw))).other W20 (Or.inr (sn_com_example_operatory_operatory_fhir_SearchValue_Alternative_value__noSystem hw))).other W23 (Or.inr (sn_com_example_operatory_operatory_fhir_SearchValue_Alternative_value__code hw)))
  obtain ⟨T26, h26, X26, e26, W26, st26⟩ := putF X23 hx hZ hown (host := "") (Or.inl (hw _ (List.mem_of_getElem? (i := 52) rfl))) Via.refl e23 F25 F24 (Or.inr ⟨(hw _ (List.mem_of_getElem? (i := 53) rfl)), rfl, hnm⟩) (hw _ (List.mem_of_getElem? (i := 31) rfl)) pf_3 (own_narrow_ref r_v8 rfl) (own_fits_ref r_v8 rfl) (g := (mkF m 52 #[.val (.ref a1), .val v0, .val v1, .val v2, .val v3, .val v4, .val v5, .val (.int p7), .val v7, .val v8, .val v9, .val v10, .val v11, .val v12] [v8, (.ref a1)])) rfl rfl (hb hby d_prog_5_method_1_code_52)
  have N26 := Fr.snoc X26 N23 ge1
  have Fw26 : Fld Z h26 a1 "com/example/operatory/operatory/fhir/SearchValue$Alternative" "value" "Ljava/lang/String;" v8 := F25.same W26
  refine Ends.step st26 ?_
  show Ends _ _ _ _ (T26.setTop (mkF m 55 #[.val (.ref a1), .val v0, .val v1, .val v2, .val v3, .val v4, .val v5, .val (.int p7), .val v7, .val v8, .val v9, .val v10, .val v11, .val v12] []))
  refine Ends.step (fun t k => XS.aloadN X26.here hx rfl (hb hby d_prog_5_method_1_code_55) rfl rfl k) ?_
  show Ends _ _ _ _ (T26.setTop (mkF m 56 #[.val (.ref a1), .val v0, .val v1, .val v2, .val v3, .val v4, .val v5, .val (.int p7), .val v7, .val v8, .val v9, .val v10, .val v11, .val v12] [(.ref a1)]))
  refine Ends.step (fun t k => XS.aload X26.here hx rfl (hb hby d_prog_5_method_1_code_56) rfl r_v9 k) ?_
  show Ends _ _ _ _ (T26.setTop (mkF m 58 #[.val (.ref a1), .val v0, .val v1, .val v2, .val v3, .val v4, .val v5, .val (.int p7), .val v7, .val v8, .val v9, .val v10, .val v11, .val v12] [v9, (.ref a1)]))
  have F27 : Exa Z h26 a1 "com/example/operatory/operatory/fhir/SearchValue$Alternative" := (F24.wr W26)
  have F28 : Fld Z h26 a1 "com/example/operatory/operatory/fhir/SearchValue$Alternative" "type" "Ljava/lang/String;" .null := (((((((((p_Fld_a1_type.other W2 (Or.inr (sn_com_example_operatory_operatory_fhir_SearchValue_Alternative_type__text hw))).other W5 (Or.inr (sn_com_example_operatory_operatory_fhir_SearchValue_Alternative_type__prefix hw))).other W8 (Or.inr (sn_com_example_operatory_operatory_fhir_SearchValue_Alternative_type__number hw))).other W11 (Or.inr (sn_com_example_operatory_operatory_fhir_SearchValue_Alternative_type__date hw))).other W14 (Or.inr (sn_com_example_operatory_operatory_fhir_SearchValue_Alternative_type__precision hw))).other W17 (Or.inr (sn_com_example_operatory_operatory_fhir_SearchValue_Alternative_type__system hw))).other W20 (Or.inr (sn_com_example_operatory_operatory_fhir_SearchValue_Alternative_type__noSystem hw))).other W23 (Or.inr (sn_com_example_operatory_operatory_fhir_SearchValue_Alternative_type__code hw))).other W26 (Or.inr (sn_com_example_operatory_operatory_fhir_SearchValue_Alternative_type__value hw)))
  obtain ⟨T29, h29, X29, e29, W29, st29⟩ := putF X26 hx hZ hown (host := "") (Or.inl (hw _ (List.mem_of_getElem? (i := 54) rfl))) Via.refl e26 F28 F27 (Or.inr ⟨(hw _ (List.mem_of_getElem? (i := 55) rfl)), rfl, hnm⟩) (hw _ (List.mem_of_getElem? (i := 31) rfl)) pf_3 (own_narrow_ref r_v9 rfl) (own_fits_ref r_v9 rfl) (g := (mkF m 58 #[.val (.ref a1), .val v0, .val v1, .val v2, .val v3, .val v4, .val v5, .val (.int p7), .val v7, .val v8, .val v9, .val v10, .val v11, .val v12] [v9, (.ref a1)])) rfl rfl (hb hby d_prog_5_method_1_code_58)
  have N29 := Fr.snoc X29 N26 ge1
  have Fw29 : Fld Z h29 a1 "com/example/operatory/operatory/fhir/SearchValue$Alternative" "type" "Ljava/lang/String;" v9 := F28.same W29
  refine Ends.step st29 ?_
  show Ends _ _ _ _ (T29.setTop (mkF m 61 #[.val (.ref a1), .val v0, .val v1, .val v2, .val v3, .val v4, .val v5, .val (.int p7), .val v7, .val v8, .val v9, .val v10, .val v11, .val v12] []))
  refine Ends.step (fun t k => XS.aloadN X29.here hx rfl (hb hby d_prog_5_method_1_code_61) rfl rfl k) ?_
  show Ends _ _ _ _ (T29.setTop (mkF m 62 #[.val (.ref a1), .val v0, .val v1, .val v2, .val v3, .val v4, .val v5, .val (.int p7), .val v7, .val v8, .val v9, .val v10, .val v11, .val v12] [(.ref a1)]))
  refine Ends.step (fun t k => XS.aload X29.here hx rfl (hb hby d_prog_5_method_1_code_62) rfl r_v10 k) ?_
  show Ends _ _ _ _ (T29.setTop (mkF m 64 #[.val (.ref a1), .val v0, .val v1, .val v2, .val v3, .val v4, .val v5, .val (.int p7), .val v7, .val v8, .val v9, .val v10, .val v11, .val v12] [v10, (.ref a1)]))
  have F30 : Exa Z h29 a1 "com/example/operatory/operatory/fhir/SearchValue$Alternative" := (F27.wr W29)
  have F31 : Fld Z h29 a1 "com/example/operatory/operatory/fhir/SearchValue$Alternative" "id" "Ljava/lang/String;" .null := ((((((((((p_Fld_a1_id.other W2 (Or.inr (sn_com_example_operatory_operatory_fhir_SearchValue_Alternative_id__text hw))).other W5 (Or.inr (sn_com_example_operatory_operatory_fhir_SearchValue_Alternative_id__prefix hw))).other W8 (Or.inr (sn_com_example_operatory_operatory_fhir_SearchValue_Alternative_id__number hw))).other W11 (Or.inr (sn_com_example_operatory_operatory_fhir_SearchValue_Alternative_id__date hw))).other W14 (Or.inr (sn_com_example_operatory_operatory_fhir_SearchValue_Alternative_id__precision hw))).other W17 (Or.inr (sn_com_example_operatory_operatory_fhir_SearchValue_Alternative_id__system hw))).other W20 (Or.inr (sn_com_example_operatory_operatory_fhir_SearchValue_Alternative_id__noSystem hw))).other W23 (Or.inr (sn_com_example_operatory_operatory_fhir_SearchValue_Alternative_id__code hw))).other W26 (Or.inr (sn_com_example_operatory_operatory_fhir_SearchValue_Alternative_id__value hw))).other W29 (Or.inr (sn_com_example_operatory_operatory_fhir_SearchValue_Alternative_id__type hw)))
  obtain ⟨T32, h32, X32, e32, W32, st32⟩ := putF X29 hx hZ hown (host := "") (Or.inl (hw _ (List.mem_of_getElem? (i := 56) rfl))) Via.refl e29 F31 F30 (Or.inr ⟨(hw _ (List.mem_of_getElem? (i := 57) rfl)), rfl, hnm⟩) (hw _ (List.mem_of_getElem? (i := 31) rfl)) pf_3 (own_narrow_ref r_v10 rfl) (own_fits_ref r_v10 rfl) (g := (mkF m 64 #[.val (.ref a1), .val v0, .val v1, .val v2, .val v3, .val v4, .val v5, .val (.int p7), .val v7, .val v8, .val v9, .val v10, .val v11, .val v12] [v10, (.ref a1)])) rfl rfl (hb hby d_prog_5_method_1_code_64)
  have N32 := Fr.snoc X32 N29 ge1
  have Fw32 : Fld Z h32 a1 "com/example/operatory/operatory/fhir/SearchValue$Alternative" "id" "Ljava/lang/String;" v10 := F31.same W32
  refine Ends.step st32 ?_
  show Ends _ _ _ _ (T32.setTop (mkF m 67 #[.val (.ref a1), .val v0, .val v1, .val v2, .val v3, .val v4, .val v5, .val (.int p7), .val v7, .val v8, .val v9, .val v10, .val v11, .val v12] []))
  refine Ends.step (fun t k => XS.aloadN X32.here hx rfl (hb hby d_prog_5_method_1_code_67) rfl rfl k) ?_
  show Ends _ _ _ _ (T32.setTop (mkF m 68 #[.val (.ref a1), .val v0, .val v1, .val v2, .val v3, .val v4, .val v5, .val (.int p7), .val v7, .val v8, .val v9, .val v10, .val v11, .val v12] [(.ref a1)]))
  refine Ends.step (fun t k => XS.aload X32.here hx rfl (hb hby d_prog_5_method_1_code_68) rfl r_v11 k) ?_
  show Ends _ _ _ _ (T32.setTop (mkF m 70 #[.val (.ref a1), .val v0, .val v1, .val v2, .val v3, .val v4, .val v5, .val (.int p7), .val v7, .val v8, .val v9, .val v10, .val v11, .val v12] [v11, (.ref a1)]))
  have F33 : Exa Z h32 a1 "com/example/operatory/operatory/fhir/SearchValue$Alternative" := (F30.wr W32)
  have F34 : Fld Z h32 a1 "com/example/operatory/operatory/fhir/SearchValue$Alternative" "url" "Ljava/lang/String;" .null := (((((((((((p_Fld_a1_url.other W2 (Or.inr (sn_com_example_operatory_operatory_fhir_SearchValue_Alternative_url__text hw))).other W5 (Or.inr (sn_com_example_operatory_operatory_fhir_SearchValue_Alternative_url__prefix hw))).other W8 (Or.inr (sn_com_example_operatory_operatory_fhir_SearchValue_Alternative_url__number hw))).other W11 (Or.inr (sn_com_example_operatory_operatory_fhir_SearchValue_Alternative_url__date hw))).other W14 (Or.inr (sn_com_example_operatory_operatory_fhir_SearchValue_Alternative_url__precision hw))).other W17 (Or.inr (sn_com_example_operatory_operatory_fhir_SearchValue_Alternative_url__system hw))).other W20 (Or.inr (sn_com_example_operatory_operatory_fhir_SearchValue_Alternative_url__noSystem hw))).other W23 (Or.inr (sn_com_example_operatory_operatory_fhir_SearchValue_Alternative_url__code hw))).other W26 (Or.inr (sn_com_example_operatory_operatory_fhir_SearchValue_Alternative_url__value hw))).other W29 (Or.inr (sn_com_example_operatory_operatory_fhir_SearchValue_Alternative_url__type hw))).other W32 (Or.inr (sn_com_example_operatory_operatory_fhir_SearchValue_Alternative_url__id hw)))
  obtain ⟨T35, h35, X35, e35, W35, st35⟩ := putF X32 hx hZ hown (host := "") (Or.inl (hw _ (List.mem_of_getElem? (i := 58) rfl))) Via.refl e32 F34 F33 (Or.inr ⟨(hw _ (List.mem_of_getElem? (i := 59) rfl)), rfl, hnm⟩) (hw _ (List.mem_of_getElem? (i := 31) rfl)) pf_3 (own_narrow_ref r_v11 rfl) (own_fits_ref r_v11 rfl) (g := (mkF m 70 #[.val (.ref a1), .val v0, .val v1, .val v2, .val v3, .val v4, .val v5, .val (.int p7), .val v7, .val v8, .val v9, .val v10, .val v11, .val v12] [v11, (.ref a1)])) rfl rfl (hb hby d_prog_5_method_1_code_70)
  have N35 := Fr.snoc X35 N32 ge1
  have Fw35 : Fld Z h35 a1 "com/example/operatory/operatory/fhir/SearchValue$Alternative" "url" "Ljava/lang/String;" v11 := F34.same W35
  refine Ends.step st35 ?_
  show Ends _ _ _ _ (T35.setTop (mkF m 73 #[.val (.ref a1), .val v0, .val v1, .val v2, .val v3, .val v4, .val v5, .val (.int p7), .val v7, .val v8, .val v9, .val v10, .val v11, .val v12] []))
  refine Ends.step (fun t k => XS.aloadN X35.here hx rfl (hb hby d_prog_5_method_1_code_73) rfl rfl k) ?_
  show Ends _ _ _ _ (T35.setTop (mkF m 74 #[.val (.ref a1), .val v0, .val v1, .val v2, .val v3, .val v4, .val v5, .val (.int p7), .val v7, .val v8, .val v9, .val v10, .val v11, .val v12] [(.ref a1)]))
  refine Ends.step (fun t k => XS.aload X35.here hx rfl (hb hby d_prog_5_method_1_code_74) rfl r_v12 k) ?_
  show Ends _ _ _ _ (T35.setTop (mkF m 76 #[.val (.ref a1), .val v0, .val v1, .val v2, .val v3, .val v4, .val v5, .val (.int p7), .val v7, .val v8, .val v9, .val v10, .val v11, .val v12] [v12, (.ref a1)]))
  have F36 : Exa Z h35 a1 "com/example/operatory/operatory/fhir/SearchValue$Alternative" := (F33.wr W35)
  have F37 : Fld Z h35 a1 "com/example/operatory/operatory/fhir/SearchValue$Alternative" "missing" "Ljava/lang/Boolean;" .null := ((((((((((((p_Fld_a1_missing.other W2 (Or.inr (sn_com_example_operatory_operatory_fhir_SearchValue_Alternative_missing__text hw))).other W5 (Or.inr (sn_com_example_operatory_operatory_fhir_SearchValue_Alternative_missing__prefix hw))).other W8 (Or.inr (sn_com_example_operatory_operatory_fhir_SearchValue_Alternative_missing__number hw))).other W11 (Or.inr (sn_com_example_operatory_operatory_fhir_SearchValue_Alternative_missing__date hw))).other W14 (Or.inr (sn_com_example_operatory_operatory_fhir_SearchValue_Alternative_missing__precision hw))).other W17 (Or.inr (sn_com_example_operatory_operatory_fhir_SearchValue_Alternative_missing__system hw))).other W20 (Or.inr (sn_com_example_operatory_operatory_fhir_SearchValue_Alternative_missing__noSystem hw))).other W23 (Or.inr (sn_com_example_operatory_operatory_fhir_SearchValue_Alternative_missing__code hw))).other W26 (Or.inr (sn_com_example_operatory_operatory_fhir_SearchValue_Alternative_missing__value hw))).other W29 (Or.inr (sn_com_example_operatory_operatory_fhir_SearchValue_Alternative_missing__type hw))).other W32 (Or.inr (sn_com_example_operatory_operatory_fhir_SearchValue_Alternative_missing__id hw))).other W35 (Or.inr (sn_com_example_operatory_operatory_fhir_SearchValue_Alternative_missing__url hw)))
  obtain ⟨T38, h38, X38, e38, W38, st38⟩ := putF X35 hx hZ hown (host := "") (Or.inl (hw _ (List.mem_of_getElem? (i := 60) rfl))) Via.refl e35 F37 F36 (Or.inr ⟨(hw _ (List.mem_of_getElem? (i := 61) rfl)), rfl, hnm⟩) (hw _ (List.mem_of_getElem? (i := 31) rfl)) pf_8 (own_narrow_ref r_v12 rfl) (own_fits_ref r_v12 rfl) (g := (mkF m 76 #[.val (.ref a1), .val v0, .val v1, .val v2, .val v3, .val v4, .val v5, .val (.int p7), .val v7, .val v8, .val v9, .val v10, .val v11, .val v12] [v12, (.ref a1)])) rfl rfl (hb hby d_prog_5_method_1_code_76)
  have N38 := Fr.snoc X38 N35 ge1
  have Fw38 : Fld Z h38 a1 "com/example/operatory/operatory/fhir/SearchValue$Alternative" "missing" "Ljava/lang/Boolean;" v12 := F37.same W38
  refine Ends.step st38 ?_
  show Ends _ _ _ _ (T38.setTop (mkF m 79 #[.val (.ref a1), .val v0, .val v1, .val v2, .val v3, .val v4, .val v5, .val (.int p7), .val v7, .val v8, .val v9, .val v10, .val v11, .val v12] []))
  have F39 : Exa Z h38 a1 "com/example/operatory/operatory/fhir/SearchValue$Alternative" := (F36.wr W38)
  have F40 : Fld Z h38 a1 "com/example/operatory/operatory/fhir/SearchValue$Alternative" "text" "Ljava/lang/String;" v0 := ((((((((((((Fw2.other W5 (Or.inr (sn_com_example_operatory_operatory_fhir_SearchValue_Alternative_text__prefix hw))).other W8 (Or.inr (sn_com_example_operatory_operatory_fhir_SearchValue_Alternative_text__number hw))).other W11 (Or.inr (sn_com_example_operatory_operatory_fhir_SearchValue_Alternative_text__date hw))).other W14 (Or.inr (sn_com_example_operatory_operatory_fhir_SearchValue_Alternative_text__precision hw))).other W17 (Or.inr (sn_com_example_operatory_operatory_fhir_SearchValue_Alternative_text__system hw))).other W20 (Or.inr (sn_com_example_operatory_operatory_fhir_SearchValue_Alternative_text__noSystem hw))).other W23 (Or.inr (sn_com_example_operatory_operatory_fhir_SearchValue_Alternative_text__code hw))).other W26 (Or.inr (sn_com_example_operatory_operatory_fhir_SearchValue_Alternative_text__value hw))).other W29 (Or.inr (sn_com_example_operatory_operatory_fhir_SearchValue_Alternative_text__type hw))).other W32 (Or.inr (sn_com_example_operatory_operatory_fhir_SearchValue_Alternative_text__id hw))).other W35 (Or.inr (sn_com_example_operatory_operatory_fhir_SearchValue_Alternative_text__url hw))).other W38 (Or.inr (sn_com_example_operatory_operatory_fhir_SearchValue_Alternative_text__missing hw)))
  have F41 : Fld Z h38 a1 "com/example/operatory/operatory/fhir/SearchValue$Alternative" "prefix" "Lcom/example/operatory/operatory/fhir/SearchValue$Prefix;" v1 := (((((((((((Fw5.other W8 (Or.inr (sn_com_example_operatory_operatory_fhir_SearchValue_Alternative_prefix__number hw))).other W11 (Or.inr (sn_com_example_operatory_operatory_fhir_SearchValue_Alternative_prefix__date hw))).other W14 (Or.inr (sn_com_example_operatory_operatory_fhir_SearchValue_Alternative_prefix__precision hw))).other W17 (Or.inr (sn_com_example_operatory_operatory_fhir_SearchValue_Alternative_prefix__system hw))).other W20 (Or.inr (sn_com_example_operatory_operatory_fhir_SearchValue_Alternative_prefix__noSystem hw))).other W23 (Or.inr (sn_com_example_operatory_operatory_fhir_SearchValue_Alternative_prefix__code hw))).other W26 (Or.inr (sn_com_example_operatory_operatory_fhir_SearchValue_Alternative_prefix__value hw))).other W29 (Or.inr (sn_com_example_operatory_operatory_fhir_SearchValue_Alternative_prefix__type hw))).other W32 (Or.inr (sn_com_example_operatory_operatory_fhir_SearchValue_Alternative_prefix__id hw))).other W35 (Or.inr (sn_com_example_operatory_operatory_fhir_SearchValue_Alternative_prefix__url hw))).other W38 (Or.inr (sn_com_example_operatory_operatory_fhir_SearchValue_Alternative_prefix__missing hw)))
  have F42 : Fld Z h38 a1 "com/example/operatory/operatory/fhir/SearchValue$Alternative" "number" "Ljava/math/BigDecimal;" v2 := ((((((((((Fw8.other W11 (Or.inr (sn_com_example_operatory_operatory_fhir_SearchValue_Alternative_number__date hw))).other W14 (Or.inr (sn_com_example_operatory_operatory_fhir_SearchValue_Alternative_number__precision hw))).other W17 (Or.inr (sn_com_example_operatory_operatory_fhir_SearchValue_Alternative_number__system hw))).other W20 (Or.inr (sn_com_example_operatory_operatory_fhir_SearchValue_Alternative_number__noSystem hw))).other W23 (Or.inr (sn_com_example_operatory_operatory_fhir_SearchValue_Alternative_number__code hw))).other W26 (Or.inr (sn_com_example_operatory_operatory_fhir_SearchValue_Alternative_number__value hw))).other W29 (Or.inr (sn_com_example_operatory_operatory_fhir_SearchValue_Alternative_number__type hw))).other W32 (Or.inr (sn_com_example_operatory_operatory_fhir_SearchValue_Alternative_number__id hw))).other W35 (Or.inr (sn_com_example_operatory_operatory_fhir_SearchValue_Alternative_number__url hw))).other W38 (Or.inr (sn_com_example_operatory_operatory_fhir_SearchValue_Alternative_number__missing hw)))
  have F43 : Fld Z h38 a1 "com/example/operatory/operatory/fhir/SearchValue$Alternative" "date" "Ljava/lang/String;" v3 := (((((((((Fw11.other W14 (Or.inr (sn_com_example_operatory_operatory_fhir_SearchValue_Alternative_date__precision hw))).other W17 (Or.inr (sn_com_example_operatory_operatory_fhir_SearchValue_Alternative_date__system hw))).other W20 (Or.inr (sn_com_example_operatory_operatory_fhir_SearchValue_Alternative_date__noSystem hw))).other W23 (Or.inr (sn_com_example_operatory_operatory_fhir_SearchValue_Alternative_date__code hw))).other W26 (Or.inr (sn_com_example_operatory_operatory_fhir_SearchValue_Alternative_date__value hw))).other W29 (Or.inr (sn_com_example_operatory_operatory_fhir_SearchValue_Alternative_date__type hw))).other W32 (Or.inr (sn_com_example_operatory_operatory_fhir_SearchValue_Alternative_date__id hw))).other W35 (Or.inr (sn_com_example_operatory_operatory_fhir_SearchValue_Alternative_date__url hw))).other W38 (Or.inr (sn_com_example_operatory_operatory_fhir_SearchValue_Alternative_date__missing hw)))
  have F44 : Fld Z h38 a1 "com/example/operatory/operatory/fhir/SearchValue$Alternative" "precision" "Lcom/example/operatory/operatory/fhir/SearchValue$Precision;" v4 := ((((((((Fw14.other W17 (Or.inr (sn_com_example_operatory_operatory_fhir_SearchValue_Alternative_precision__system hw))).other W20 (Or.inr (sn_com_example_operatory_operatory_fhir_SearchValue_Alternative_precision__noSystem hw))).other W23 (Or.inr (sn_com_example_operatory_operatory_fhir_SearchValue_Alternative_precision__code hw))).other W26 (Or.inr (sn_com_example_operatory_operatory_fhir_SearchValue_Alternative_precision__value hw))).other W29 (Or.inr (sn_com_example_operatory_operatory_fhir_SearchValue_Alternative_precision__type hw))).other W32 (Or.inr (sn_com_example_operatory_operatory_fhir_SearchValue_Alternative_precision__id hw))).other W35 (Or.inr (sn_com_example_operatory_operatory_fhir_SearchValue_Alternative_precision__url hw))).other W38 (Or.inr (sn_com_example_operatory_operatory_fhir_SearchValue_Alternative_precision__missing hw)))
  have F45 : Fld Z h38 a1 "com/example/operatory/operatory/fhir/SearchValue$Alternative" "system" "Ljava/lang/String;" v5 := (((((((Fw17.other W20 (Or.inr (sn_com_example_operatory_operatory_fhir_SearchValue_Alternative_system__noSystem hw))).other W23 (Or.inr (sn_com_example_operatory_operatory_fhir_SearchValue_Alternative_system__code hw))).other W26 (Or.inr (sn_com_example_operatory_operatory_fhir_SearchValue_Alternative_system__value hw))).other W29 (Or.inr (sn_com_example_operatory_operatory_fhir_SearchValue_Alternative_system__type hw))).other W32 (Or.inr (sn_com_example_operatory_operatory_fhir_SearchValue_Alternative_system__id hw))).other W35 (Or.inr (sn_com_example_operatory_operatory_fhir_SearchValue_Alternative_system__url hw))).other W38 (Or.inr (sn_com_example_operatory_operatory_fhir_SearchValue_Alternative_system__missing hw)))
  have F46 : Fld Z h38 a1 "com/example/operatory/operatory/fhir/SearchValue$Alternative" "noSystem" "Z" (.int (nar .boolean p7)) := ((((((Fw20.other W23 (Or.inr (sn_com_example_operatory_operatory_fhir_SearchValue_Alternative_noSystem__code hw))).other W26 (Or.inr (sn_com_example_operatory_operatory_fhir_SearchValue_Alternative_noSystem__value hw))).other W29 (Or.inr (sn_com_example_operatory_operatory_fhir_SearchValue_Alternative_noSystem__type hw))).other W32 (Or.inr (sn_com_example_operatory_operatory_fhir_SearchValue_Alternative_noSystem__id hw))).other W35 (Or.inr (sn_com_example_operatory_operatory_fhir_SearchValue_Alternative_noSystem__url hw))).other W38 (Or.inr (sn_com_example_operatory_operatory_fhir_SearchValue_Alternative_noSystem__missing hw)))
  have F47 : Fld Z h38 a1 "com/example/operatory/operatory/fhir/SearchValue$Alternative" "code" "Ljava/lang/String;" v7 := (((((Fw23.other W26 (Or.inr (sn_com_example_operatory_operatory_fhir_SearchValue_Alternative_code__value hw))).other W29 (Or.inr (sn_com_example_operatory_operatory_fhir_SearchValue_Alternative_code__type hw))).other W32 (Or.inr (sn_com_example_operatory_operatory_fhir_SearchValue_Alternative_code__id hw))).other W35 (Or.inr (sn_com_example_operatory_operatory_fhir_SearchValue_Alternative_code__url hw))).other W38 (Or.inr (sn_com_example_operatory_operatory_fhir_SearchValue_Alternative_code__missing hw)))
  have F48 : Fld Z h38 a1 "com/example/operatory/operatory/fhir/SearchValue$Alternative" "value" "Ljava/lang/String;" v8 := ((((Fw26.other W29 (Or.inr (sn_com_example_operatory_operatory_fhir_SearchValue_Alternative_value__type hw))).other W32 (Or.inr (sn_com_example_operatory_operatory_fhir_SearchValue_Alternative_value__id hw))).other W35 (Or.inr (sn_com_example_operatory_operatory_fhir_SearchValue_Alternative_value__url hw))).other W38 (Or.inr (sn_com_example_operatory_operatory_fhir_SearchValue_Alternative_value__missing hw)))
  have F49 : Fld Z h38 a1 "com/example/operatory/operatory/fhir/SearchValue$Alternative" "type" "Ljava/lang/String;" v9 := (((Fw29.other W32 (Or.inr (sn_com_example_operatory_operatory_fhir_SearchValue_Alternative_type__id hw))).other W35 (Or.inr (sn_com_example_operatory_operatory_fhir_SearchValue_Alternative_type__url hw))).other W38 (Or.inr (sn_com_example_operatory_operatory_fhir_SearchValue_Alternative_type__missing hw)))
  have F50 : Fld Z h38 a1 "com/example/operatory/operatory/fhir/SearchValue$Alternative" "id" "Ljava/lang/String;" v10 := ((Fw32.other W35 (Or.inr (sn_com_example_operatory_operatory_fhir_SearchValue_Alternative_id__url hw))).other W38 (Or.inr (sn_com_example_operatory_operatory_fhir_SearchValue_Alternative_id__missing hw)))
  have F51 : Fld Z h38 a1 "com/example/operatory/operatory/fhir/SearchValue$Alternative" "url" "Ljava/lang/String;" v11 := (Fw35.other W38 (Or.inr (sn_com_example_operatory_operatory_fhir_SearchValue_Alternative_url__missing hw)))
  exact own_finV X38 hx hlk Bd.returns (hb hby d_prog_5_method_1_code_79) e38 (K := _) ⟨rfl, N38, ((((((((((((((Keep.refl h0 [a1]).wr W2 (Or.inl (List.mem_of_getElem? (i := 0) rfl))).wr W5 (Or.inl (List.mem_of_getElem? (i := 0) rfl))).wr W8 (Or.inl (List.mem_of_getElem? (i := 0) rfl))).wr W11 (Or.inl (List.mem_of_getElem? (i := 0) rfl))).wr W14 (Or.inl (List.mem_of_getElem? (i := 0) rfl))).wr W17 (Or.inl (List.mem_of_getElem? (i := 0) rfl))).wr W20 (Or.inl (List.mem_of_getElem? (i := 0) rfl))).wr W23 (Or.inl (List.mem_of_getElem? (i := 0) rfl))).wr W26 (Or.inl (List.mem_of_getElem? (i := 0) rfl))).wr W29 (Or.inl (List.mem_of_getElem? (i := 0) rfl))).wr W32 (Or.inl (List.mem_of_getElem? (i := 0) rfl))).wr W35 (Or.inl (List.mem_of_getElem? (i := 0) rfl))).wr W38 (Or.inl (List.mem_of_getElem? (i := 0) rfl))), F39, F40, F41, F42, F43, F44, F45, F46, F47, F48, F49, F50, F51, Fw38⟩ (by decide) (by decide)
def QrmOf (Z : State) (a1 : Addr) (v2 : Value) (p3 : Int32) (v4 : Value) (v5 : Value) (h0 : Heap) (n0 : Nat) (v : Option Value) (h : Heap) (L : List Loc) : Prop := ∃ x : Addr, v = some (.ref x) ∧ Fr n0 L ∧ Keep h0 h [] ∧ (h0.size ≤ x) ∧ (Exa Z h x "com/example/operatory/operatory/fhir/SearchValue$Alternative") ∧ (Fld Z h x "com/example/operatory/operatory/fhir/SearchValue$Alternative" "text" "Ljava/lang/String;" (.ref a1)) ∧ (Fld Z h x "com/example/operatory/operatory/fhir/SearchValue$Alternative" "prefix" "Lcom/example/operatory/operatory/fhir/SearchValue$Prefix;" .null) ∧ (Fld Z h x "com/example/operatory/operatory/fhir/SearchValue$Alternative" "number" "Ljava/math/BigDecimal;" .null) ∧ (Fld Z h x "com/example/operatory/operatory/fhir/SearchValue$Alternative" "date" "Ljava/lang/String;" .null) ∧ (Fld Z h x "com/example/operatory/operatory/fhir/SearchValue$Alternative" "precision" "Lcom/example/operatory/operatory/fhir/SearchValue$Precision;" .null) ∧ (Fld Z h x "com/example/operatory/operatory/fhir/SearchValue$Alternative" "system" "Ljava/lang/String;" v2) ∧ (Fld Z h x "com/example/operatory/operatory/fhir/SearchValue$Alternative" "noSystem" "Z" (.int (nar .boolean p3))) ∧ (Fld Z h x "com/example/operatory/operatory/fhir/SearchValue$Alternative" "code" "Ljava/lang/String;" v4) ∧ (Fld Z h x "com/example/operatory/operatory/fhir/SearchValue$Alternative" "value" "Ljava/lang/String;" v5) ∧ (Fld Z h x "com/example/operatory/operatory/fhir/SearchValue$Alternative" "type" "Ljava/lang/String;" .null) ∧ (Fld Z h x "com/example/operatory/operatory/fhir/SearchValue$Alternative" "id" "Ljava/lang/String;" .null) ∧ (Fld Z h x "com/example/operatory/operatory/fhir/SearchValue$Alternative" "url" "Ljava/lang/String;" .null) ∧ (Fld Z h x "com/example/operatory/operatory/fhir/SearchValue$Alternative" "missing" "Ljava/lang/Boolean;" .null)
theorem ef_rmOf (m : MethodId) (a1 : Addr) (v2 : Value) (p3 : Int32) (v4 : Value) (v5 : Value) (r_v2 : Value.isRef v2 = true) (r_v4 : Value.isRef v4 = true) (r_v5 : Value.isRef v5 = true) : entryFrame m #[(.ref a1), v2, (.int p3), v4, v5] 5 = mkF m 0 #[.val (.ref a1), .val v2, .val (.int p3), .val v4, .val v5] [] := by first | (simp [entryFrame, mkF, argsToLocals, maxLocals, own_cR, own_cI, own_cN, own_cJ, XT.cat1 r_v2, XT.cat1 r_v4, XT.cat1 r_v5]; done) | rfl
set_option maxRecDepth 65536 in
set_option maxHeartbeats 40000000 in
theorem rmOf (l : Launch) (Z : State) (a0 : Array Value) (hw : ∀ d ∈ tables_1, d.before a0 Z = true) (ws : List Jvm.Cond) (a1 : Addr) (v2 : Value) (p3 : Int32) (v4 : Value) (v5 : Value) (h0 : Heap) (n0 : Nat) (Z0 : n0 ≤ h0.size) (G1 : Int32) (O2 : Sta Z Z.heap "java/lang/String" "COMPACT_STRINGS" "Z" (.int G1)) (P5 : ¬ (G1 = (0 : Int32))) (eA : Addr) (SE : Sta Z Z.heap "java/util/Optional" "EMPTY" "Ljava/util/Optional;" (.ref eA)) (XE : Exa Z Z.heap eA "java/util/Optional") (FE : Fld Z Z.heap eA "java/util/Optional" "value" "Ljava/lang/Object;" .null) (X00 : Old Z n0 h0) (r_v2 : Value.isRef v2 = true) (r_v4 : Value.isRef v4 = true) (r_v5 : Value.isRef v5 = true) :
    MetFree l (⟨"com/example/operatory/operatory/fhir/SearchValue$Alternative", "ofToken", "(Ljava/lang/String;Ljava/lang/String;ZLjava/lang/String;Ljava/lang/String;)Lcom/example/operatory/operatory/fhir/SearchValue$Alternative;"⟩ : MethodName) (head1 (Jvm.Cond.code (⟨"com/example/operatory/operatory/fhir/SearchValue$Alternative", "ofToken", "(Ljava/lang/String;Ljava/lang/String;ZLjava/lang/String;Ljava/lang/String;)Lcom/example/operatory/operatory/fhir/SearchValue$Alternative;"⟩ : MethodName) prog_5_method_6_code 5 (Option.some (Jvm.ClassFile.FieldType.object "com/example/operatory/operatory/fhir/SearchValue$Alternative")) :: ws) ({ frames := 2, cells := 1, slots := 13, locals := 38 } : Room)) (fun a U => a = #[(.ref a1), v2, (.int p3), v4, v5] ∧ Z.Warmed39 U.vm ∧ U.heap = h0) (fun _ _ _ _ _ => True) (fun _ U o U' => ∃ v L, o = .returned v ∧ QrmOf Z a1 v2 p3 v4 v5 h0 n0 v U'.heap L ∧ FrameEnd U o U' L ({ frames := 2, cells := 1, slots := 13, locals := 38 } : Room).cells ({ frames := 2, cells := 1, slots := 13, locals := 38 } : Room).slots) := by
  refine MetFree.of_bodySF (plainFor_of_name pn_com_example_operatory_operatory_fhir_SearchValue_Alternative) hisR ?_
  intro p e s m args below meth c s₁ Bd hml0 hP hK
  obtain ⟨rfl, hZ, hh⟩ := hP
  have hx := Bd.exec
  have hby := Bd.bytes
  have hml : c.maxLocals = 5 := hml0
  have hown : s.vm.findClass "com/example/operatory/operatory/fhir/SearchValue$Alternative" = some m.cls := findClass_of_methodNamed Bd.named
  have hnm := (name_of_methodNamed Bd.named Bd.method).1
  have hlk : meth.locks = false := BodyLoose.notSynchronized Bd
  have X0 : Stand p l e ({ frames := 2, cells := 1, slots := 13, locals := 38 } : Room) s m #[(.ref a1), v2, (.int p3), v4, v5] below meth c s₁ [] 0 0 := Stand.of_body Bd
  have e0 : s₁.heap = h0 := by rw [← hh, Bd.state]; rfl
  have N0 := Fr.nil n0
  show Ends p.tables e below (fun o U' => ∃ v L, o = .returned v ∧ QrmOf Z a1 v2 p3 v4 v5 h0 n0 v U'.heap L ∧ FrameEnd s o U' L ({ frames := 2, cells := 1, slots := 13, locals := 38 } : Room).cells ({ frames := 2, cells := 1, slots := 13, locals := 38 } : Room).slots) (s₁.setTop (entryFrame m #[(.ref a1), v2, (.int p3), v4, v5] 5))
  refine Ends.step (fun t k => castTop (ef_rmOf m a1 v2 p3 v4 v5 r_v2 r_v4 r_v5) k) ?_
  show Ends _ _ _ _ (s₁.setTop (mkF m 0 #[.val (.ref a1), .val v2, .val (.int p3), .val v4, .val v5] []))
  obtain ⟨T1, h1, X1, e1, E1, A1, D1, -, st1⟩ := newO X0 hx hZ hown (hw _ (List.mem_of_getElem? (i := 30) rfl)) (hw _ (List.mem_of_getElem? (i := 31) rfl)) (hw _ (List.mem_of_getElem? (i := 28) rfl)) e0 (g := (mkF m 0 #[.val (.ref a1), .val v2, .val (.int p3), .val v4, .val v5] [])) rfl (hb hby d_prog_5_method_6_code_0) (by decide) (by decide)
  obtain ⟨b1, g1⟩ : ∃ z, z = h0.size := ⟨_, rfl⟩
  rw [← g1] at A1 D1 st1
  refine Ends.step st1 ?_
  show Ends _ _ _ _ (T1.setTop (mkF m 3 #[.val (.ref a1), .val v2, .val (.int p3), .val v4, .val v5] [(.ref b1)]))
  refine Ends.step (fun t k => XS.dup X1.here hx rfl (hb hby d_prog_5_method_6_code_3) rfl rfl k) ?_
  show Ends _ _ _ _ (T1.setTop (mkF m 4 #[.val (.ref a1), .val v2, .val (.int p3), .val v4, .val v5] [(.ref b1), (.ref b1)]))
  refine Ends.step (fun t k => XS.aloadN X1.here hx rfl (hb hby d_prog_5_method_6_code_4) rfl rfl k) ?_
  show Ends _ _ _ _ (T1.setTop (mkF m 5 #[.val (.ref a1), .val v2, .val (.int p3), .val v4, .val v5] [(.ref a1), (.ref b1), (.ref b1)]))
  refine Ends.step (fun t k => XS.aconstNull X1.here hx rfl (hb hby d_prog_5_method_6_code_5) k) ?_
  show Ends _ _ _ _ (T1.setTop (mkF m 6 #[.val (.ref a1), .val v2, .val (.int p3), .val v4, .val v5] [.null, (.ref a1), (.ref b1), (.ref b1)]))
  refine Ends.step (fun t k => XS.aconstNull X1.here hx rfl (hb hby d_prog_5_method_6_code_6) k) ?_
  show Ends _ _ _ _ (T1.setTop (mkF m 7 #[.val (.ref a1), .val v2, .val (.int p3), .val v4, .val v5] [.null, .null, (.ref a1), (.ref b1), (.ref b1)]))
  refine Ends.step (fun t k => XS.aconstNull X1.here hx rfl (hb hby d_prog_5_method_6_code_7) k) ?_
  show Ends _ _ _ _ (T1.setTop (mkF m 8 #[.val (.ref a1), .val v2, .val (.int p3), .val v4, .val v5] [.null, .null, .null, (.ref a1), (.ref b1), (.ref b1)]))
  refine Ends.step (fun t k => XS.aconstNull X1.here hx rfl (hb hby d_prog_5_method_6_code_8) k) ?_
  show Ends _ _ _ _ (T1.setTop (mkF m 9 #[.val (.ref a1), .val v2, .val (.int p3), .val v4, .val v5] [.null, .null, .null, .null, (.ref a1), (.ref b1), (.ref b1)]))
  refine Ends.step (fun t k => XS.aloadN X1.here hx rfl (hb hby d_prog_5_method_6_code_9) rfl r_v2 k) ?_
  show Ends _ _ _ _ (T1.setTop (mkF m 10 #[.val (.ref a1), .val v2, .val (.int p3), .val v4, .val v5] [v2, .null, .null, .null, .null, (.ref a1), (.ref b1), (.ref b1)]))
  refine Ends.step (fun t k => XS.iloadN X1.here hx rfl (hb hby d_prog_5_method_6_code_10) rfl k) ?_
  show Ends _ _ _ _ (T1.setTop (mkF m 11 #[.val (.ref a1), .val v2, .val (.int p3), .val v4, .val v5] [(.int p3), v2, .null, .null, .null, .null, (.ref a1), (.ref b1), (.ref b1)]))
  refine Ends.step (fun t k => XS.aloadN X1.here hx rfl (hb hby d_prog_5_method_6_code_11) rfl r_v4 k) ?_
  show Ends _ _ _ _ (T1.setTop (mkF m 12 #[.val (.ref a1), .val v2, .val (.int p3), .val v4, .val v5] [v4, (.int p3), v2, .null, .null, .null, .null, (.ref a1), (.ref b1), (.ref b1)]))
  refine Ends.step (fun t k => XS.aload X1.here hx rfl (hb hby d_prog_5_method_6_code_12) rfl r_v5 k) ?_
  show Ends _ _ _ _ (T1.setTop (mkF m 14 #[.val (.ref a1), .val v2, .val (.int p3), .val v4, .val v5] [v5, v4, (.int p3), v2, .null, .null, .null, .null, (.ref a1), (.ref b1), (.ref b1)]))
  refine Ends.step (fun t k => XS.aconstNull X1.here hx rfl (hb hby d_prog_5_method_6_code_14) k) ?_
  show Ends _ _ _ _ (T1.setTop (mkF m 15 #[.val (.ref a1), .val v2, .val (.int p3), .val v4, .val v5] [.null, v5, v4, (.int p3), v2, .null, .null, .null, .null, (.ref a1), (.ref b1), (.ref b1)]))
  refine Ends.step (fun t k => XS.aconstNull X1.here hx rfl (hb hby d_prog_5_method_6_code_15) k) ?_
  show Ends _ _ _ _ (T1.setTop (mkF m 16 #[.val (.ref a1), .val v2, .val (.int p3), .val v4, .val v5] [.null, .null, v5, v4, (.int p3), v2, .null, .null, .null, .null, (.ref a1), (.ref b1), (.ref b1)]))
  refine Ends.step (fun t k => XS.aconstNull X1.here hx rfl (hb hby d_prog_5_method_6_code_16) k) ?_
  show Ends _ _ _ _ (T1.setTop (mkF m 17 #[.val (.ref a1), .val v2, .val (.int p3), .val v4, .val v5] [.null, .null, .null, v5, v4, (.int p3), v2, .null, .null, .null, .null, (.ref a1), (.ref b1), (.ref b1)]))
  refine Ends.step (fun t k => XS.aconstNull X1.here hx rfl (hb hby d_prog_5_method_6_code_17) k) ?_
  show Ends _ _ _ _ (T1.setTop (mkF m 18 #[.val (.ref a1), .val v2, .val (.int p3), .val v4, .val v5] [.null, .null, .null, .null, v5, v4, (.int p3), v2, .null, .null, .null, .null, (.ref a1), (.ref b1), (.ref b1)]))
  have F2 : Old Z n0 h1 := (X00.ext E1)
  obtain ⟨_, _, ⟨T3, L3, k3, n3⟩, -, X3, ⟨Lc3, hQ3, l3, y3, z3⟩, st3⟩ := X1.specialBack hx (y := (⟨"com/example/operatory/operatory/fhir/SearchValue$Alternative", "<init>", "(Ljava/lang/String;Lcom/example/operatory/operatory/fhir/SearchValue$Prefix;Ljava/math/BigDecimal;Ljava/lang/String;Lcom/example/operatory/operatory/fhir/SearchValue$Precision;Ljava/lang/String;ZLjava/lang/String;Ljava/lang/String;Ljava/lang/String;Ljava/lang/String;Ljava/lang/String;Ljava/lang/Boolean;)V"⟩ : MethodName)) rfl hown (mvT hZ (hw _ (List.mem_of_getElem? (i := 32) rfl))) (mvT hZ (hw _ (List.mem_of_getElem? (i := 33) rfl))) (mvT hZ (hw _ (List.mem_of_getElem? (i := 34) rfl))) (by decide) (backOf (W := 1) (rmAltI l Z a0 hw [] b1 (.ref a1) .null .null .null .null v2 p3 v4 v5 .null .null .null .null h1 n0 (Nat.le_trans Z0 E1.1) G1 O2 P5 eA SE XE FE F2 rfl rfl rfl rfl rfl r_v2 r_v4 r_v5 rfl rfl rfl rfl A1 (D1 (Or.inr (hw _ (List.mem_of_getElem? (i := 37) rfl))) pf_3) (D1 (Or.inr (hw _ (List.mem_of_getElem? (i := 39) rfl))) pf_4) (D1 (Or.inr (hw _ (List.mem_of_getElem? (i := 41) rfl))) pf_5) (D1 (Or.inr (hw _ (List.mem_of_getElem? (i := 43) rfl))) pf_3) (D1 (Or.inr (hw _ (List.mem_of_getElem? (i := 45) rfl))) pf_6) (D1 (Or.inr (hw _ (List.mem_of_getElem? (i := 47) rfl))) pf_3) (D1 (Or.inr (hw _ (List.mem_of_getElem? (i := 49) rfl))) pf_7) (D1 (Or.inr (hw _ (List.mem_of_getElem? (i := 51) rfl))) pf_3) (D1 (Or.inr (hw _ (List.mem_of_getElem? (i := 53) rfl))) pf_3) (D1 (Or.inr (hw _ (List.mem_of_getElem? (i := 55) rfl))) pf_3) (D1 (Or.inr (hw _ (List.mem_of_getElem? (i := 57) rfl))) pf_3) (D1 (Or.inr (hw _ (List.mem_of_getElem? (i := 59) rfl))) pf_3) (D1 (Or.inr (hw _ (List.mem_of_getElem? (i := 61) rfl))) pf_8) (Nat.le_trans (Nat.le_trans Z0 (Nat.le_refl _)) (Nat.le_of_eq g1.symm))) hZ (hw _ (List.mem_of_getElem? (i := 34) rfl)) (hw _ (List.mem_of_getElem? (i := 28) rfl)) (by decide) (by decide)) (g := (mkF m 18 #[.val (.ref a1), .val v2, .val (.int p3), .val v4, .val v5] [.null, .null, .null, .null, v5, v4, (.int p3), v2, .null, .null, .null, .null, (.ref a1), (.ref b1), (.ref b1)])) rfl (by rw [hml]; rfl) (Steps.refl _) (a := b1) (argsL := [(.ref a1), .null, .null, .null, .null, v2, (.int p3), v4, v5, .null, .null, .null, .null]) (rest := [(.ref b1)]) (lenOf pd_3 rfl) rfl (by show 2 * 0 + _ ≤ _; exact Nat.le_of_eq rfl) (hb hby d_prog_5_method_6_code_18) (fun _ _ => ⟨rfl, e1, (by decide : 1 + 0 ≤ _), (by decide : 13 + 0 ≤ _)⟩)
  dsimp only [Pt.U, Pt.locs, Pt.cells, Pt.slots] at X3 l3 y3 z3 st3 hQ3
  subst l3 y3 z3
  obtain ⟨rfl, Nq3, K3, f3_0, f3_1, f3_2, f3_3, f3_4, f3_5, f3_6, f3_7, f3_8, f3_9, f3_10, f3_11, f3_12, f3_13⟩ := hQ3
  have N3 := Fr.app N0 Nq3
  refine Ends.go st3 ?_
  have K4 : Keep h0 T3.heap [] := (((Keep.refl h0 []).ext E1).trans K3 (allS (Or.inr (Nat.le_trans (Nat.le_refl _) (Nat.le_of_eq g1.symm))) all0))
  show Ends _ _ _ _ (T3.setTop (mkF m 21 #[.val (.ref a1), .val v2, .val (.int p3), .val v4, .val v5] [(.ref b1)]))
  exact own_finR X3 hx hlk Bd.returns rfl rfl (hb hby d_prog_5_method_6_code_21) rfl ⟨b1, rfl, N3, ((Keep.refl h0 []).trans K4 all0), (Nat.le_trans (Nat.le_refl _) (Nat.le_of_eq g1.symm)), f3_0, f3_1, f3_2, f3_3, f3_4, f3_5, f3_6, f3_7, f3_8, f3_9, f3_10, f3_11, f3_12, f3_13⟩ (by decide) (by decide)
def QrmText (Z : State) (a1 : Addr) (v1 : Value) (h0 : Heap) (n0 : Nat) (v : Option Value) (h : Heap) (L : List Loc) : Prop := v = some v1 ∧ Fr n0 L ∧ h = h0
theorem ef_rmText (m : MethodId) (a1 : Addr)  : entryFrame m #[(.ref a1)] 1 = mkF m 0 #[.val (.ref a1)] [] := by first | (simp [entryFrame, mkF, argsToLocals, maxLocals, Value.category]; done) | rfl
set_option maxRecDepth 65536 in
set_option maxHeartbeats 40000000 in
theorem rmText (l : Launch) (Z : State) (a0 : Array Value) (hw : ∀ d ∈ tables_1, d.before a0 Z = true) (ws : List Jvm.Cond) (a1 : Addr) (v1 : Value) (h0 : Heap) (n0 : Nat) (Z0 : n0 ≤ h0.size) (G1 : Int32) (O2 : Sta Z Z.heap "java/lang/String" "COMPACT_STRINGS" "Z" (.int G1)) (P5 : ¬ (G1 = (0 : Int32))) (eA : Addr) (SE : Sta Z Z.heap "java/util/Optional" "EMPTY" "Ljava/util/Optional;" (.ref eA)) (XE : Exa Z Z.heap eA "java/util/Optional") (FE : Fld Z Z.heap eA "java/util/Optional" "value" "Ljava/lang/Object;" .null) (X00 : Old Z n0 h0) (p_Fld_a1_text : Fld Z h0 a1 "com/example/operatory/operatory/fhir/SearchValue$Alternative" "text" "Ljava/lang/String;" v1) (r_v1 : Value.isRef v1 = true) :
    MetFree l (⟨"com/example/operatory/operatory/fhir/SearchValue$Alternative", "text", "()Ljava/lang/String;"⟩ : MethodName) (head1 (Jvm.Cond.code (⟨"com/example/operatory/operatory/fhir/SearchValue$Alternative", "text", "()Ljava/lang/String;"⟩ : MethodName) prog_5_method_8_code 1 (Option.some (Jvm.ClassFile.FieldType.object "java/lang/String")) :: ws) ({ frames := 0, cells := 0, slots := 0, locals := 0 } : Room)) (fun a U => a = #[(.ref a1)] ∧ Z.Warmed39 U.vm ∧ U.heap = h0) (fun _ _ _ _ _ => True) (fun _ U o U' => ∃ v L, o = .returned v ∧ QrmText Z a1 v1 h0 n0 v U'.heap L ∧ FrameEnd U o U' L ({ frames := 0, cells := 0, slots := 0, locals := 0 } : Room).cells ({ frames := 0, cells := 0, slots := 0, locals := 0 } : Room).slots) := by
  refine MetFree.of_bodySF (plainFor_of_name pn_com_example_operatory_operatory_fhir_SearchValue_Alternative) hisR ?_
  intro p e s m args below meth c s₁ Bd hml0 hP hK
  obtain ⟨rfl, hZ, hh⟩ := hP
  have hx := Bd.exec
  have hby := Bd.bytes
  have hml : c.maxLocals = 1 := hml0
  have hown : s.vm.findClass "com/example/operatory/operatory/fhir/SearchValue$Alternative" = some m.cls := findClass_of_methodNamed Bd.named
  have hnm := (name_of_methodNamed Bd.named Bd.method).1
  have hlk : meth.locks = false := BodyLoose.notSynchronized Bd
  have X0 : Stand p l e ({ frames := 0, cells := 0, slots := 0, locals := 0 } : Room) s m #[(.ref a1)] below meth c s₁ [] 0 0 := Stand.of_body Bd
  have e0 : s₁.heap = h0 := by rw [← hh, Bd.state]; rfl
  have N0 := Fr.nil n0
  show Ends p.tables e below (fun o U' => ∃ v L, o = .returned v ∧ QrmText Z a1 v1 h0 n0 v U'.heap L ∧ FrameEnd s o U' L ({ frames := 0, cells := 0, slots := 0, locals := 0 } : Room).cells ({ frames := 0, cells := 0, slots := 0, locals := 0 } : Room).slots) (s₁.setTop (entryFrame m #[(.ref a1)] 1))
  refine Ends.step (fun t k => castTop (ef_rmText m a1 ) k) ?_
  show Ends _ _ _ _ (s₁.setTop (mkF m 0 #[.val (.ref a1)] []))
  refine Ends.step (fun t k => XS.aloadN X0.here hx rfl (hb hby d_prog_5_method_8_code_0) rfl rfl k) ?_
  show Ends _ _ _ _ (s₁.setTop (mkF m 1 #[.val (.ref a1)] [(.ref a1)]))
  obtain ⟨T1, X1, e1, st1⟩ := getF X0 hx hZ hown (host := "") (Or.inl (hw _ (List.mem_of_getElem? (i := 36) rfl))) Via.refl e0 p_Fld_a1_text (g := (mkF m 1 #[.val (.ref a1)] [(.ref a1)])) rfl rfl (hb hby d_prog_5_method_8_code_1)
  refine Ends.step st1 ?_
  show Ends _ _ _ _ (T1.setTop (mkF m 4 #[.val (.ref a1)] [v1]))
  exact own_finR X1 hx hlk Bd.returns rfl r_v1 (hb hby d_prog_5_method_8_code_4) e1 ⟨rfl, N0, rfl⟩ (by decide) (by decide)
def QrmGg_system (Z : State) (a1 : Addr) (v1 : Value) (h0 : Heap) (n0 : Nat) (v : Option Value) (h : Heap) (L : List Loc) : Prop := ∃ x : Addr, v = some (.ref x) ∧ Fr n0 L ∧ Keep h0 h [] ∧ (Exa Z h x "java/util/Optional") ∧ (Fld Z h x "java/util/Optional" "value" "Ljava/lang/Object;" v1)
theorem ef_rmGg_system (m : MethodId) (a1 : Addr)  : entryFrame m #[(.ref a1)] 1 = mkF m 0 #[.val (.ref a1)] [] := by first | (simp [entryFrame, mkF, argsToLocals, maxLocals, Value.category]; done) | rfl
set_option maxRecDepth 65536 in
set_option maxHeartbeats 40000000 in
theorem rmGg_system (l : Launch) (Z : State) (a0 : Array Value) (hw : ∀ d ∈ tables_1, d.before a0 Z = true) (ws : List Jvm.Cond) (a1 : Addr) (v1 : Value) (h0 : Heap) (n0 : Nat) (Z0 : n0 ≤ h0.size) (G1 : Int32) (O2 : Sta Z Z.heap "java/lang/String" "COMPACT_STRINGS" "Z" (.int G1)) (P5 : ¬ (G1 = (0 : Int32))) (eA : Addr) (SE : Sta Z Z.heap "java/util/Optional" "EMPTY" "Ljava/util/Optional;" (.ref eA)) (XE : Exa Z Z.heap eA "java/util/Optional") (FE : Fld Z Z.heap eA "java/util/Optional" "value" "Ljava/lang/Object;" .null) (X00 : Old Z n0 h0) (p_Fld_a1_system : Fld Z h0 a1 "com/example/operatory/operatory/fhir/SearchValue$Alternative" "system" "Ljava/lang/String;" v1) (r_v1 : Value.isRef v1 = true) :
    MetFree l (⟨"com/example/operatory/operatory/fhir/SearchValue$Alternative", "system", "()Ljava/util/Optional;"⟩ : MethodName) (head1 (Jvm.Cond.code (⟨"com/example/operatory/operatory/fhir/SearchValue$Alternative", "system", "()Ljava/util/Optional;"⟩ : MethodName) prog_5_method_13_code 1 (Option.some (Jvm.ClassFile.FieldType.object "java/util/Optional")) :: ws) ({ frames := 3, cells := 1, slots := 1, locals := 38 } : Room)) (fun a U => a = #[(.ref a1)] ∧ Z.Warmed39 U.vm ∧ U.heap = h0) (fun _ _ _ _ _ => True) (fun _ U o U' => ∃ v L, o = .returned v ∧ QrmGg_system Z a1 v1 h0 n0 v U'.heap L ∧ FrameEnd U o U' L ({ frames := 3, cells := 1, slots := 1, locals := 38 } : Room).cells ({ frames := 3, cells := 1, slots := 1, locals := 38 } : Room).slots) := by
  refine MetFree.of_bodySF (plainFor_of_name pn_com_example_operatory_operatory_fhir_SearchValue_Alternative) hisR ?_
  intro p e s m args below meth c s₁ Bd hml0 hP hK
  obtain ⟨rfl, hZ, hh⟩ := hP
  have hx := Bd.exec
  have hby := Bd.bytes
  have hml : c.maxLocals = 1 := hml0
  have hown : s.vm.findClass "com/example/operatory/operatory/fhir/SearchValue$Alternative" = some m.cls := findClass_of_methodNamed Bd.named
  have hnm := (name_of_methodNamed Bd.named Bd.method).1
  have hlk : meth.locks = false := BodyLoose.notSynchronized Bd
  have X0 : Stand p l e ({ frames := 3, cells := 1, slots := 1, locals := 38 } : Room) s m #[(.ref a1)] below meth c s₁ [] 0 0 := Stand.of_body Bd
  have e0 : s₁.heap = h0 := by rw [← hh, Bd.state]; rfl
  have N0 := Fr.nil n0
  show Ends p.tables e below (fun o U' => ∃ v L, o = .returned v ∧ QrmGg_system Z a1 v1 h0 n0 v U'.heap L ∧ FrameEnd s o U' L ({ frames := 3, cells := 1, slots := 1, locals := 38 } : Room).cells ({ frames := 3, cells := 1, slots := 1, locals := 38 } : Room).slots) (s₁.setTop (entryFrame m #[(.ref a1)] 1))
  refine Ends.step (fun t k => castTop (ef_rmGg_system m a1 ) k) ?_
  show Ends _ _ _ _ (s₁.setTop (mkF m 0 #[.val (.ref a1)] []))
  refine Ends.step (fun t k => XS.aloadN X0.here hx rfl (hb hby d_prog_5_method_13_code_0) rfl rfl k) ?_
  show Ends _ _ _ _ (s₁.setTop (mkF m 1 #[.val (.ref a1)] [(.ref a1)]))
  obtain ⟨T1, X1, e1, st1⟩ := getF X0 hx hZ hown (host := "") (Or.inl (hw _ (List.mem_of_getElem? (i := 46) rfl))) Via.refl e0 p_Fld_a1_system (g := (mkF m 1 #[.val (.ref a1)] [(.ref a1)])) rfl rfl (hb hby d_prog_5_method_13_code_1)
  refine Ends.step st1 ?_
  show Ends _ _ _ _ (T1.setTop (mkF m 4 #[.val (.ref a1)] [v1]))
  obtain ⟨_, _, ⟨T2, L2, k2, n2⟩, -, X2, ⟨Lc2, hQ2, l2, y2, z2⟩, st2⟩ := Jvm.LawKit.callS X1 hx (y := (⟨"java/util/Optional", "ofNullable", "(Ljava/lang/Object;)Ljava/util/Optional;"⟩ : MethodName)) hown (mvT hZ (hw _ (List.mem_of_getElem? (i := 72) rfl))) (mvT hZ (hw _ (List.mem_of_getElem? (i := 73) rfl))) (mvT hZ (hw _ (List.mem_of_getElem? (i := 74) rfl))) (mvT hZ (hw _ (List.mem_of_getElem? (i := 75) rfl))) (by decide) (backOf (W := 0) (rmOpNg l Z a0 hw [] v1 h0 n0 Z0 G1 O2 P5 eA SE XE FE X00 r_v1) hZ (hw _ (List.mem_of_getElem? (i := 75) rfl)) (hw _ (List.mem_of_getElem? (i := 74) rfl)) (by decide) (by decide)) (g := (mkF m 4 #[.val (.ref a1)] [v1])) rfl (by rw [hml]; rfl) (argsL := [v1]) (rest := []) (lenOf pd_4 rfl) rfl (by show 2 * 0 + _ ≤ _; exact Nat.le_of_eq rfl) (hb hby d_prog_5_method_13_code_4) (fun _ _ => ⟨rfl, e1, (by decide : 0 + 1 ≤ _), (by decide : 0 + 1 ≤ _)⟩)
  dsimp only [Pt.U, Pt.locs, Pt.cells, Pt.slots] at X2 l2 y2 z2 st2 hQ2
  subst l2 y2 z2
  obtain ⟨x_2, rfl, Nq2, K2, f2_0, f2_1⟩ := hQ2
  have N2 := Fr.app N0 Nq2
  refine Ends.step st2 ?_
  show Ends _ _ _ _ (T2.setTop (mkF m 7 #[.val (.ref a1)] [(.ref x_2)]))
  exact own_finR X2 hx hlk Bd.returns rfl rfl (hb hby d_prog_5_method_13_code_7) rfl ⟨x_2, rfl, N2, ((Keep.refl h0 []).trans K2 all0), f2_0, f2_1⟩ (by decide) (by decide)
def QrmGg_code (Z : State) (a1 : Addr) (v1 : Value) (h0 : Heap) (n0 : Nat) (v : Option Value) (h : Heap) (L : List Loc) : Prop := ∃ x : Addr, v = some (.ref x) ∧ Fr n0 L ∧ Keep h0 h [] ∧ (Exa Z h x "java/util/Optional") ∧ (Fld Z h x "java/util/Optional" "value" "Ljava/lang/Object;" v1)
theorem ef_rmGg_code (m : MethodId) (a1 : Addr)  : entryFrame m #[(.ref a1)] 1 = mkF m 0 #[.val (.ref a1)] [] := by first | (simp [entryFrame, mkF, argsToLocals, maxLocals, Value.category]; done) | rfl
set_option maxRecDepth 65536 in
set_option maxHeartbeats 40000000 in
theorem rmGg_code (l : Launch) (Z : State) (a0 : Array Value) (hw : ∀ d ∈ tables_1, d.before a0 Z = true) (ws : List Jvm.Cond) (a1 : Addr) (v1 : Value) (h0 : Heap) (n0 : Nat) (Z0 : n0 ≤ h0.size) (G1 : Int32) (O2 : Sta Z Z.heap "java/lang/String" "COMPACT_STRINGS" "Z" (.int G1)) (P5 : ¬ (G1 = (0 : Int32))) (eA : Addr) (SE : Sta Z Z.heap "java/util/Optional" "EMPTY" "Ljava/util/Optional;" (.ref eA)) (XE : Exa Z Z.heap eA "java/util/Optional") (FE : Fld Z Z.heap eA "java/util/Optional" "value" "Ljava/lang/Object;" .null) (X00 : Old Z n0 h0) (p_Fld_a1_code : Fld Z h0 a1 "com/example/operatory/operatory/fhir/SearchValue$Alternative" "code" "Ljava/lang/String;" v1) (r_v1 : Value.isRef v1 = true) :
    MetFree l (⟨"com/example/operatory/operatory/fhir/SearchValue$Alternative", "code", "()Ljava/util/Optional;"⟩ : MethodName) (head1 (Jvm.Cond.code (⟨"com/example/operatory/operatory/fhir/SearchValue$Alternative", "code", "()Ljava/util/Optional;"⟩ : MethodName) prog_5_method_15_code 1 (Option.some (Jvm.ClassFile.FieldType.object "java/util/Optional")) :: ws) ({ frames := 3, cells := 1, slots := 1, locals := 38 } : Room)) (fun a U => a = #[(.ref a1)] ∧ Z.Warmed39 U.vm ∧ U.heap = h0) (fun _ _ _ _ _ => True) (fun _ U o U' => ∃ v L, o = .returned v ∧ QrmGg_code Z a1 v1 h0 n0 v U'.heap L ∧ FrameEnd U o U' L ({ frames := 3, cells := 1, slots := 1, locals := 38 } : Room).cells ({ frames := 3, cells := 1, slots := 1, locals := 38 } : Room).slots) := by
  refine MetFree.of_bodySF (plainFor_of_name pn_com_example_operatory_operatory_fhir_SearchValue_Alternative) hisR ?_
  intro p e s m args below meth c s₁ Bd hml0 hP hK
  obtain ⟨rfl, hZ, hh⟩ := hP
  have hx := Bd.exec
  have hby := Bd.bytes
  have hml : c.maxLocals = 1 := hml0
  have hown : s.vm.findClass "com/example/operatory/operatory/fhir/SearchValue$Alternative" = some m.cls := findClass_of_methodNamed Bd.named
  have hnm := (name_of_methodNamed Bd.named Bd.method).1
  have hlk : meth.locks = false := BodyLoose.notSynchronized Bd
  have X0 : Stand p l e ({ frames := 3, cells := 1, slots := 1, locals := 38 } : Room) s m #[(.ref a1)] below meth c s₁ [] 0 0 := Stand.of_body Bd
  have e0 : s₁.heap = h0 := by rw [← hh, Bd.state]; rfl
  have N0 := Fr.nil n0
  show Ends p.tables e below (fun o U' => ∃ v L, o = .returned v ∧ QrmGg_code Z a1 v1 h0 n0 v U'.heap L ∧ FrameEnd s o U' L ({ frames := 3, cells := 1, slots := 1, locals := 38 } : Room).cells ({ frames := 3, cells := 1, slots := 1, locals := 38 } : Room).slots) (s₁.setTop (entryFrame m #[(.ref a1)] 1))
  refine Ends.step (fun t k => castTop (ef_rmGg_code m a1 ) k) ?_
  show Ends _ _ _ _ (s₁.setTop (mkF m 0 #[.val (.ref a1)] []))
  refine Ends.step (fun t k => XS.aloadN X0.here hx rfl (hb hby d_prog_5_method_15_code_0) rfl rfl k) ?_
  show Ends _ _ _ _ (s₁.setTop (mkF m 1 #[.val (.ref a1)] [(.ref a1)]))
  obtain ⟨T1, X1, e1, st1⟩ := getF X0 hx hZ hown (host := "") (Or.inl (hw _ (List.mem_of_getElem? (i := 50) rfl))) Via.refl e0 p_Fld_a1_code (g := (mkF m 1 #[.val (.ref a1)] [(.ref a1)])) rfl rfl (hb hby d_prog_5_method_15_code_1)
  refine Ends.step st1 ?_
  show Ends _ _ _ _ (T1.setTop (mkF m 4 #[.val (.ref a1)] [v1]))
  obtain ⟨_, _, ⟨T2, L2, k2, n2⟩, -, X2, ⟨Lc2, hQ2, l2, y2, z2⟩, st2⟩ := Jvm.LawKit.callS X1 hx (y := (⟨"java/util/Optional", "ofNullable", "(Ljava/lang/Object;)Ljava/util/Optional;"⟩ : MethodName)) hown (mvT hZ (hw _ (List.mem_of_getElem? (i := 72) rfl))) (mvT hZ (hw _ (List.mem_of_getElem? (i := 73) rfl))) (mvT hZ (hw _ (List.mem_of_getElem? (i := 74) rfl))) (mvT hZ (hw _ (List.mem_of_getElem? (i := 75) rfl))) (by decide) (backOf (W := 0) (rmOpNg l Z a0 hw [] v1 h0 n0 Z0 G1 O2 P5 eA SE XE FE X00 r_v1) hZ (hw _ (List.mem_of_getElem? (i := 75) rfl)) (hw _ (List.mem_of_getElem? (i := 74) rfl)) (by decide) (by decide)) (g := (mkF m 4 #[.val (.ref a1)] [v1])) rfl (by rw [hml]; rfl) (argsL := [v1]) (rest := []) (lenOf pd_4 rfl) rfl (by show 2 * 0 + _ ≤ _; exact Nat.le_of_eq rfl) (hb hby d_prog_5_method_15_code_4) (fun _ _ => ⟨rfl, e1, (by decide : 0 + 1 ≤ _), (by decide : 0 + 1 ≤ _)⟩)
  dsimp only [Pt.U, Pt.locs, Pt.cells, Pt.slots] at X2 l2 y2 z2 st2 hQ2
  subst l2 y2 z2
  obtain ⟨x_2, rfl, Nq2, K2, f2_0, f2_1⟩ := hQ2
  have N2 := Fr.app N0 Nq2
  refine Ends.step st2 ?_
  show Ends _ _ _ _ (T2.setTop (mkF m 7 #[.val (.ref a1)] [(.ref x_2)]))
  exact own_finR X2 hx hlk Bd.returns rfl rfl (hb hby d_prog_5_method_15_code_7) rfl ⟨x_2, rfl, N2, ((Keep.refl h0 []).trans K2 all0), f2_0, f2_1⟩ (by decide) (by decide)
def QrmGg_value (Z : State) (a1 : Addr) (v1 : Value) (h0 : Heap) (n0 : Nat) (v : Option Value) (h : Heap) (L : List Loc) : Prop := ∃ x : Addr, v = some (.ref x) ∧ Fr n0 L ∧ Keep h0 h [] ∧ (Exa Z h x "java/util/Optional") ∧ (Fld Z h x "java/util/Optional" "value" "Ljava/lang/Object;" v1)
theorem ef_rmGg_value (m : MethodId) (a1 : Addr)  : entryFrame m #[(.ref a1)] 1 = mkF m 0 #[.val (.ref a1)] [] := by first | (simp [entryFrame, mkF, argsToLocals, maxLocals, Value.category]; done) | rfl
set_option maxRecDepth 65536 in
set_option maxHeartbeats 40000000 in
theorem rmGg_value (l : Launch) (Z : State) (a0 : Array Value) (hw : ∀ d ∈ tables_1, d.before a0 Z = true) (ws : List Jvm.Cond) (a1 : Addr) (v1 : Value) (h0 : Heap) (n0 : Nat) (Z0 : n0 ≤ h0.size) (G1 : Int32) (O2 : Sta Z Z.heap "java/lang/String" "COMPACT_STRINGS" "Z" (.int G1)) (P5 : ¬ (G1 = (0 : Int32))) (eA : Addr) (SE : Sta Z Z.heap "java/util/Optional" "EMPTY" "Ljava/util/Optional;" (.ref eA)) (XE : Exa Z Z.heap eA "java/util/Optional") (FE : Fld Z Z.heap eA "java/util/Optional" "value" "Ljava/lang/Object;" .null) (X00 : Old Z n0 h0) (p_Fld_a1_value : Fld Z h0 a1 "com/example/operatory/operatory/fhir/SearchValue$Alternative" "value" "Ljava/lang/String;" v1) (r_v1 : Value.isRef v1 = true) :
    MetFree l (⟨"com/example/operatory/operatory/fhir/SearchValue$Alternative", "value", "()Ljava/util/Optional;"⟩ : MethodName) (head1 (Jvm.Cond.code (⟨"com/example/operatory/operatory/fhir/SearchValue$Alternative", "value", "()Ljava/util/Optional;"⟩ : MethodName) prog_5_method_16_code 1 (Option.some (Jvm.ClassFile.FieldType.object "java/util/Optional")) :: ws) ({ frames := 3, cells := 1, slots := 1, locals := 38 } : Room)) (fun a U => a = #[(.ref a1)] ∧ Z.Warmed39 U.vm ∧ U.heap = h0) (fun _ _ _ _ _ => True) (fun _ U o U' => ∃ v L, o = .returned v ∧ QrmGg_value Z a1 v1 h0 n0 v U'.heap L ∧ FrameEnd U o U' L ({ frames := 3, cells := 1, slots := 1, locals := 38 } : Room).cells ({ frames := 3, cells := 1, slots := 1, locals := 38 } : Room).slots) := by
  refine MetFree.of_bodySF (plainFor_of_name pn_com_example_operatory_operatory_fhir_SearchValue_Alternative) hisR ?_
  intro p e s m args below meth c s₁ Bd hml0 hP hK
  obtain ⟨rfl, hZ, hh⟩ := hP
  have hx := Bd.exec
  have hby := Bd.bytes
  have hml : c.maxLocals = 1 := hml0
  have hown : s.vm.findClass "com/example/operatory/operatory/fhir/SearchValue$Alternative" = some m.cls := findClass_of_methodNamed Bd.named
  have hnm := (name_of_methodNamed Bd.named Bd.method).1
  have hlk : meth.locks = false := BodyLoose.notSynchronized Bd
  have X0 : Stand p l e ({ frames := 3, cells := 1, slots := 1, locals := 38 } : Room) s m #[(.ref a1)] below meth c s₁ [] 0 0 := Stand.of_body Bd
  have e0 : s₁.heap = h0 := by rw [← hh, Bd.state]; rfl
  have N0 := Fr.nil n0
  show Ends p.tables e below (fun o U' => ∃ v L, o = .returned v ∧ QrmGg_value Z a1 v1 h0 n0 v U'.heap L ∧ FrameEnd s o U' L ({ frames := 3, cells := 1, slots := 1, locals := 38 } : Room).cells ({ frames := 3, cells := 1, slots := 1, locals := 38 } : Room).slots) (s₁.setTop (entryFrame m #[(.ref a1)] 1))
  refine Ends.step (fun t k => castTop (ef_rmGg_value m a1 ) k) ?_
  show Ends _ _ _ _ (s₁.setTop (mkF m 0 #[.val (.ref a1)] []))
  refine Ends.step (fun t k => XS.aloadN X0.here hx rfl (hb hby d_prog_5_method_16_code_0) rfl rfl k) ?_
  show Ends _ _ _ _ (s₁.setTop (mkF m 1 #[.val (.ref a1)] [(.ref a1)]))
  obtain ⟨T1, X1, e1, st1⟩ := getF X0 hx hZ hown (host := "") (Or.inl (hw _ (List.mem_of_getElem? (i := 52) rfl))) Via.refl e0 p_Fld_a1_value (g := (mkF m 1 #[.val (.ref a1)] [(.ref a1)])) rfl rfl (hb hby d_prog_5_method_16_code_1)
  refine Ends.step st1 ?_
  show Ends _ _ _ _ (T1.setTop (mkF m 4 #[.val (.ref a1)] [v1]))
  obtain ⟨_, _, ⟨T2, L2, k2, n2⟩, -, X2, ⟨Lc2, hQ2, l2, y2, z2⟩, st2⟩ := Jvm.LawKit.callS X1 hx (y := (⟨"java/util/Optional", "ofNullable", "(Ljava/lang/Object;)Ljava/util/Optional;"⟩ : MethodName)) hown (mvT hZ (hw _ (List.mem_of_getElem? (i := 72) rfl))) (mvT hZ (hw _ (List.mem_of_getElem? (i := 73) rfl))) (mvT hZ (hw _ (List.mem_of_getElem? (i := 74) rfl))) (mvT hZ (hw _ (List.mem_of_getElem? (i := 75) rfl))) (by decide) (backOf (W := 0) (rmOpNg l Z a0 hw [] v1 h0 n0 Z0 G1 O2 P5 eA SE XE FE X00 r_v1) hZ (hw _ (List.mem_of_getElem? (i := 75) rfl)) (hw _ (List.mem_of_getElem? (i := 74) rfl)) (by decide) (by decide)) (g := (mkF m 4 #[.val (.ref a1)] [v1])) rfl (by rw [hml]; rfl) (argsL := [v1]) (rest := []) (lenOf pd_4 rfl) rfl (by show 2 * 0 + _ ≤ _; exact Nat.le_of_eq rfl) (hb hby d_prog_5_method_16_code_4) (fun _ _ => ⟨rfl, e1, (by decide : 0 + 1 ≤ _), (by decide : 0 + 1 ≤ _)⟩)
  dsimp only [Pt.U, Pt.locs, Pt.cells, Pt.slots] at X2 l2 y2 z2 st2 hQ2
  subst l2 y2 z2
  obtain ⟨x_2, rfl, Nq2, K2, f2_0, f2_1⟩ := hQ2
  have N2 := Fr.app N0 Nq2
  refine Ends.step st2 ?_
  show Ends _ _ _ _ (T2.setTop (mkF m 7 #[.val (.ref a1)] [(.ref x_2)]))
  exact own_finR X2 hx hlk Bd.returns rfl rfl (hb hby d_prog_5_method_16_code_7) rfl ⟨x_2, rfl, N2, ((Keep.refl h0 []).trans K2 all0), f2_0, f2_1⟩ (by decide) (by decide)
def QrmGn_prefix (Z : State) (a1 : Addr) (eA : Addr) (h0 : Heap) (n0 : Nat) (v : Option Value) (h : Heap) (L : List Loc) : Prop := v = some (.ref eA) ∧ Fr n0 L ∧ h = h0
theorem ef_rmGn_prefix (m : MethodId) (a1 : Addr)  : entryFrame m #[(.ref a1)] 1 = mkF m 0 #[.val (.ref a1)] [] := by first | (simp [entryFrame, mkF, argsToLocals, maxLocals, Value.category]; done) | rfl
set_option maxRecDepth 65536 in
set_option maxHeartbeats 40000000 in
theorem rmGn_prefix (l : Launch) (Z : State) (a0 : Array Value) (hw : ∀ d ∈ tables_1, d.before a0 Z = true) (ws : List Jvm.Cond) (a1 : Addr) (h0 : Heap) (n0 : Nat) (Z0 : n0 ≤ h0.size) (G1 : Int32) (O2 : Sta Z Z.heap "java/lang/String" "COMPACT_STRINGS" "Z" (.int G1)) (P5 : ¬ (G1 = (0 : Int32))) (eA : Addr) (SE : Sta Z Z.heap "java/util/Optional" "EMPTY" "Ljava/util/Optional;" (.ref eA)) (XE : Exa Z Z.heap eA "java/util/Optional") (FE : Fld Z Z.heap eA "java/util/Optional" "value" "Ljava/lang/Object;" .null) (X00 : Old Z n0 h0) (p_Fld_a1_prefix : Fld Z h0 a1 "com/example/operatory/operatory/fhir/SearchValue$Alternative" "prefix" "Lcom/example/operatory/operatory/fhir/SearchValue$Prefix;" .null) :
    MetFree l (⟨"com/example/operatory/operatory/fhir/SearchValue$Alternative", "prefix", "()Ljava/util/Optional;"⟩ : MethodName) (head1 (Jvm.Cond.code (⟨"com/example/operatory/operatory/fhir/SearchValue$Alternative", "prefix", "()Ljava/util/Optional;"⟩ : MethodName) prog_5_method_9_code 1 (Option.some (Jvm.ClassFile.FieldType.object "java/util/Optional")) :: ws) ({ frames := 1, cells := 0, slots := 0, locals := 12 } : Room)) (fun a U => a = #[(.ref a1)] ∧ Z.Warmed39 U.vm ∧ U.heap = h0) (fun _ _ _ _ _ => True) (fun _ U o U' => ∃ v L, o = .returned v ∧ QrmGn_prefix Z a1 eA h0 n0 v U'.heap L ∧ FrameEnd U o U' L ({ frames := 1, cells := 0, slots := 0, locals := 12 } : Room).cells ({ frames := 1, cells := 0, slots := 0, locals := 12 } : Room).slots) := by
  refine MetFree.of_bodySF (plainFor_of_name pn_com_example_operatory_operatory_fhir_SearchValue_Alternative) hisR ?_
  intro p e s m args below meth c s₁ Bd hml0 hP hK
  obtain ⟨rfl, hZ, hh⟩ := hP
  have hx := Bd.exec
  have hby := Bd.bytes
  have hml : c.maxLocals = 1 := hml0
  have hown : s.vm.findClass "com/example/operatory/operatory/fhir/SearchValue$Alternative" = some m.cls := findClass_of_methodNamed Bd.named
  have hnm := (name_of_methodNamed Bd.named Bd.method).1
  have hlk : meth.locks = false := BodyLoose.notSynchronized Bd
  have X0 : Stand p l e ({ frames := 1, cells := 0, slots := 0, locals := 12 } : Room) s m #[(.ref a1)] below meth c s₁ [] 0 0 := Stand.of_body Bd
  have e0 : s₁.heap = h0 := by rw [← hh, Bd.state]; rfl
  have N0 := Fr.nil n0
  show Ends p.tables e below (fun o U' => ∃ v L, o = .returned v ∧ QrmGn_prefix Z a1 eA h0 n0 v U'.heap L ∧ FrameEnd s o U' L ({ frames := 1, cells := 0, slots := 0, locals := 12 } : Room).cells ({ frames := 1, cells := 0, slots := 0, locals := 12 } : Room).slots) (s₁.setTop (entryFrame m #[(.ref a1)] 1))
  refine Ends.step (fun t k => castTop (ef_rmGn_prefix m a1 ) k) ?_
  show Ends _ _ _ _ (s₁.setTop (mkF m 0 #[.val (.ref a1)] []))
  refine Ends.step (fun t k => XS.aloadN X0.here hx rfl (hb hby d_prog_5_method_9_code_0) rfl rfl k) ?_
  show Ends _ _ _ _ (s₁.setTop (mkF m 1 #[.val (.ref a1)] [(.ref a1)]))
  obtain ⟨T1, X1, e1, st1⟩ := getF X0 hx hZ hown (host := "") (Or.inl (hw _ (List.mem_of_getElem? (i := 38) rfl))) Via.refl e0 p_Fld_a1_prefix (g := (mkF m 1 #[.val (.ref a1)] [(.ref a1)])) rfl rfl (hb hby d_prog_5_method_9_code_1)
  refine Ends.step st1 ?_
  show Ends _ _ _ _ (T1.setTop (mkF m 4 #[.val (.ref a1)] [.null]))
  obtain ⟨_, _, ⟨T2, L2, k2, n2⟩, -, X2, ⟨Lc2, hQ2, l2, y2, z2⟩, st2⟩ := Jvm.LawKit.callS X1 hx (y := (⟨"java/util/Optional", "ofNullable", "(Ljava/lang/Object;)Ljava/util/Optional;"⟩ : MethodName)) hown (mvT hZ (hw _ (List.mem_of_getElem? (i := 72) rfl))) (mvT hZ (hw _ (List.mem_of_getElem? (i := 73) rfl))) (mvT hZ (hw _ (List.mem_of_getElem? (i := 74) rfl))) (mvT hZ (hw _ (List.mem_of_getElem? (i := 75) rfl))) (by decide) (backOf (W := 0) (rmOpNn l Z a0 hw []  h0 n0 Z0 G1 O2 P5 eA SE XE FE X00 ) hZ (hw _ (List.mem_of_getElem? (i := 75) rfl)) (hw _ (List.mem_of_getElem? (i := 74) rfl)) (by decide) (by decide)) (g := (mkF m 4 #[.val (.ref a1)] [.null])) rfl (by rw [hml]; rfl) (argsL := [.null]) (rest := []) (lenOf pd_4 rfl) rfl (by show 2 * 0 + _ ≤ _; exact Nat.le_of_eq rfl) (hb hby d_prog_5_method_9_code_4) (fun _ _ => ⟨rfl, e1, (by decide : 0 + 0 ≤ _), (by decide : 0 + 0 ≤ _)⟩)
  dsimp only [Pt.U, Pt.locs, Pt.cells, Pt.slots] at X2 l2 y2 z2 st2 hQ2
  subst l2 y2 z2
  obtain ⟨rfl, Nq2, eh2⟩ := hQ2
  have N2 := Fr.app N0 Nq2
  refine Ends.step st2 ?_
  show Ends _ _ _ _ (T2.setTop (mkF m 7 #[.val (.ref a1)] [(.ref eA)]))
  exact own_finR X2 hx hlk Bd.returns rfl rfl (hb hby d_prog_5_method_9_code_7) eh2 ⟨rfl, N2, rfl⟩ (by decide) (by decide)
def QrmGn_number (Z : State) (a1 : Addr) (eA : Addr) (h0 : Heap) (n0 : Nat) (v : Option Value) (h : Heap) (L : List Loc) : Prop := v = some (.ref eA) ∧ Fr n0 L ∧ h = h0
theorem ef_rmGn_number (m : MethodId) (a1 : Addr)  : entryFrame m #[(.ref a1)] 1 = mkF m 0 #[.val (.ref a1)] [] := by first | (simp [entryFrame, mkF, argsToLocals, maxLocals, Value.category]; done) | rfl
set_option maxRecDepth 65536 in
set_option maxHeartbeats 40000000 in
theorem rmGn_number (l : Launch) (Z : State) (a0 : Array Value) (hw : ∀ d ∈ tables_1, d.before a0 Z = true) (ws : List Jvm.Cond) (a1 : Addr) (h0 : Heap) (n0 : Nat) (Z0 : n0 ≤ h0.size) (G1 : Int32) (O2 : Sta Z Z.heap "java/lang/String" "COMPACT_STRINGS" "Z" (.int G1)) (P5 : ¬ (G1 = (0 : Int32))) (eA : Addr) (SE : Sta Z Z.heap "java/util/Optional" "EMPTY" "Ljava/util/Optional;" (.ref eA)) (XE : Exa Z Z.heap eA "java/util/Optional") (FE : Fld Z Z.heap eA "java/util/Optional" "value" "Ljava/lang/Object;" .null) (X00 : Old Z n0 h0) (p_Fld_a1_number : Fld Z h0 a1 "com/example/operatory/operatory/fhir/SearchValue$Alternative" "number" "Ljava/math/BigDecimal;" .null) :
    MetFree l (⟨"com/example/operatory/operatory/fhir/SearchValue$Alternative", "number", "()Ljava/util/Optional;"⟩ : MethodName) (head1 (Jvm.Cond.code (⟨"com/example/operatory/operatory/fhir/SearchValue$Alternative", "number", "()Ljava/util/Optional;"⟩ : MethodName) prog_5_method_10_code 1 (Option.some (Jvm.ClassFile.FieldType.object "java/util/Optional")) :: ws) ({ frames := 1, cells := 0, slots := 0, locals := 12 } : Room)) (fun a U => a = #[(.ref a1)] ∧ Z.Warmed39 U.vm ∧ U.heap = h0) (fun _ _ _ _ _ => True) (fun _ U o U' => ∃ v L, o = .returned v ∧ QrmGn_number Z a1 eA h0 n0 v U'.heap L ∧ FrameEnd U o U' L ({ frames := 1, cells := 0, slots := 0, locals := 12 } : Room).cells ({ frames := 1, cells := 0, slots := 0, locals := 12 } : Room).slots) := by
  refine MetFree.of_bodySF (plainFor_of_name pn_com_example_operatory_operatory_fhir_SearchValue_Alternative) hisR ?_
  intro p e s m args below meth c s₁ Bd hml0 hP hK
  obtain ⟨rfl, hZ, hh⟩ := hP
  have hx := Bd.exec
  have hby := Bd.bytes
  have hml : c.maxLocals = 1 := hml0
  have hown : s.vm.findClass "com/example/operatory/operatory/fhir/SearchValue$Alternative" = some m.cls := findClass_of_methodNamed Bd.named
  have hnm := (name_of_methodNamed Bd.named Bd.method).1
  have hlk : meth.locks = false := BodyLoose.notSynchronized Bd
  have X0 : Stand p l e ({ frames := 1, cells := 0, slots := 0, locals := 12 } : Room) s m #[(.ref a1)] below meth c s₁ [] 0 0 := Stand.of_body Bd
  have e0 : s₁.heap = h0 := by rw [← hh, Bd.state]; rfl
  have N0 := Fr.nil n0
  show Ends p.tables e below (fun o U' => ∃ v L, o = .returned v ∧ QrmGn_number Z a1 eA h0 n0 v U'.heap L ∧ FrameEnd s o U' L ({ frames := 1, cells := 0, slots := 0, locals := 12 } : Room).cells ({ frames := 1, cells := 0, slots := 0, locals := 12 } : Room).slots) (s₁.setTop (entryFrame m #[(.ref a1)] 1))
  refine Ends.step (fun t k => castTop (ef_rmGn_number m a1 ) k) ?_
  show Ends _ _ _ _ (s₁.setTop (mkF m 0 #[.val (.ref a1)] []))
  refine Ends.step (fun t k => XS.aloadN X0.here hx rfl (hb hby d_prog_5_method_10_code_0) rfl rfl k) ?_
  show Ends _ _ _ _ (s₁.setTop (mkF m 1 #[.val (.ref a1)] [(.ref a1)]))
  obtain ⟨T1, X1, e1, st1⟩ := getF X0 hx hZ hown (host := "") (Or.inl (hw _ (List.mem_of_getElem? (i := 40) rfl))) Via.refl e0 p_Fld_a1_number (g := (mkF m 1 #[.val (.ref a1)] [(.ref a1)])) rfl rfl (hb hby d_prog_5_method_10_code_1)
  refine Ends.step st1 ?_
  show Ends _ _ _ _ (T1.setTop (mkF m 4 #[.val (.ref a1)] [.null]))
  obtain ⟨_, _, ⟨T2, L2, k2, n2⟩, -, X2, ⟨Lc2, hQ2, l2, y2, z2⟩, st2⟩ := Jvm.LawKit.callS X1 hx (y := (⟨"java/util/Optional", "ofNullable", "(Ljava/lang/Object;)Ljava/util/Optional;"⟩ : MethodName)) hown (mvT hZ (hw _ (List.mem_of_getElem? (i := 72) rfl))) (mvT hZ (hw _ (List.mem_of_getElem? (i := 73) rfl))) (mvT hZ (hw _ (List.mem_of_getElem? (i := 74) rfl))) (mvT hZ (hw _ (List.mem_of_getElem? (i := 75) rfl))) (by decide) (backOf (W := 0) (rmOpNn l Z a0 hw []  h0 n0 Z0 G1 O2 P5 eA SE XE FE X00 ) hZ (hw _ (List.mem_of_getElem? (i := 75) rfl)) (hw _ (List.mem_of_getElem? (i := 74) rfl)) (by decide) (by decide)) (g := (mkF m 4 #[.val (.ref a1)] [.null])) rfl (by rw [hml]; rfl) (argsL := [.null]) (rest := []) (lenOf pd_4 rfl) rfl (by show 2 * 0 + _ ≤ _; exact Nat.le_of_eq rfl) (hb hby d_prog_5_method_10_code_4) (fun _ _ => ⟨rfl, e1, (by decide : 0 + 0 ≤ _), (by decide : 0 + 0 ≤ _)⟩)
  dsimp only [Pt.U, Pt.locs, Pt.cells, Pt.slots] at X2 l2 y2 z2 st2 hQ2
  subst l2 y2 z2
  obtain ⟨rfl, Nq2, eh2⟩ := hQ2
  have N2 := Fr.app N0 Nq2
  refine Ends.step st2 ?_
  show Ends _ _ _ _ (T2.setTop (mkF m 7 #[.val (.ref a1)] [(.ref eA)]))
  exact own_finR X2 hx hlk Bd.returns rfl rfl (hb hby d_prog_5_method_10_code_7) eh2 ⟨rfl, N2, rfl⟩ (by decide) (by decide)
def QrmGn_type (Z : State) (a1 : Addr) (eA : Addr) (h0 : Heap) (n0 : Nat) (v : Option Value) (h : Heap) (L : List Loc) : Prop := v = some (.ref eA) ∧ Fr n0 L ∧ h = h0
theorem ef_rmGn_type (m : MethodId) (a1 : Addr)  : entryFrame m #[(.ref a1)] 1 = mkF m 0 #[.val (.ref a1)] [] := by first | (simp [entryFrame, mkF, argsToLocals, maxLocals, Value.category]; done) | rfl
set_option maxRecDepth 65536 in
set_option maxHeartbeats 40000000 in
theorem rmGn_type (l : Launch) (Z : State) (a0 : Array Value) (hw : ∀ d ∈ tables_1, d.before a0 Z = true) (ws : List Jvm.Cond) (a1 : Addr) (h0 : Heap) (n0 : Nat) (Z0 : n0 ≤ h0.size) (G1 : Int32) (O2 : Sta Z Z.heap "java/lang/String" "COMPACT_STRINGS" "Z" (.int G1)) (P5 : ¬ (G1 = (0 : Int32))) (eA : Addr) (SE : Sta Z Z.heap "java/util/Optional" "EMPTY" "Ljava/util/Optional;" (.ref eA)) (XE : Exa Z Z.heap eA "java/util/Optional") (FE : Fld Z Z.heap eA "java/util/Optional" "value" "Ljava/lang/Object;" .null) (X00 : Old Z n0 h0) (p_Fld_a1_type : Fld Z h0 a1 "com/example/operatory/operatory/fhir/SearchValue$Alternative" "type" "Ljava/lang/String;" .null) :
    MetFree l (⟨"com/example/operatory/operatory/fhir/SearchValue$Alternative", "type", "()Ljava/util/Optional;"⟩ : MethodName) (head1 (Jvm.Cond.code (⟨"com/example/operatory/operatory/fhir/SearchValue$Alternative", "type", "()Ljava/util/Optional;"⟩ : MethodName) prog_5_method_17_code 1 (Option.some (Jvm.ClassFile.FieldType.object "java/util/Optional")) :: ws) ({ frames := 1, cells := 0, slots := 0, locals := 12 } : Room)) (fun a U => a = #[(.ref a1)] ∧ Z.Warmed39 U.vm ∧ U.heap = h0) (fun _ _ _ _ _ => True) (fun _ U o U' => ∃ v L, o = .returned v ∧ QrmGn_type Z a1 eA h0 n0 v U'.heap L ∧ FrameEnd U o U' L ({ frames := 1, cells := 0, slots := 0, locals := 12 } : Room).cells ({ frames := 1, cells := 0, slots := 0, locals := 12 } : Room).slots) := by
  refine MetFree.of_bodySF (plainFor_of_name pn_com_example_operatory_operatory_fhir_SearchValue_Alternative) hisR ?_
  intro p e s m args below meth c s₁ Bd hml0 hP hK
  obtain ⟨rfl, hZ, hh⟩ := hP
  have hx := Bd.exec
  have hby := Bd.bytes
  have hml : c.maxLocals = 1 := hml0
  have hown : s.vm.findClass "com/example/operatory/operatory/fhir/SearchValue$Alternative" = some m.cls := findClass_of_methodNamed Bd.named
  have hnm := (name_of_methodNamed Bd.named Bd.method).1
  have hlk : meth.locks = false := BodyLoose.notSynchronized Bd
  have X0 : Stand p l e ({ frames := 1, cells := 0, slots := 0, locals := 12 } : Room) s m #[(.ref a1)] below meth c s₁ [] 0 0 := Stand.of_body Bd
  have e0 : s₁.heap = h0 := by rw [← hh, Bd.state]; rfl
  have N0 := Fr.nil n0
  show Ends p.tables e below (fun o U' => ∃ v L, o = .returned v ∧ QrmGn_type Z a1 eA h0 n0 v U'.heap L ∧ FrameEnd s o U' L ({ frames := 1, cells := 0, slots := 0, locals := 12 } : Room).cells ({ frames := 1, cells := 0, slots := 0, locals := 12 } : Room).slots) (s₁.setTop (entryFrame m #[(.ref a1)] 1))
  refine Ends.step (fun t k => castTop (ef_rmGn_type m a1 ) k) ?_
  show Ends _ _ _ _ (s₁.setTop (mkF m 0 #[.val (.ref a1)] []))
  refine Ends.step (fun t k => XS.aloadN X0.here hx rfl (hb hby d_prog_5_method_17_code_0) rfl rfl k) ?_
  show Ends _ _ _ _ (s₁.setTop (mkF m 1 #[.val (.ref a1)] [(.ref a1)]))
  obtain ⟨T1, X1, e1, st1⟩ := getF X0 hx hZ hown (host := "") (Or.inl (hw _ (List.mem_of_getElem? (i := 54) rfl))) Via.refl e0 p_Fld_a1_type (g := (mkF m 1 #[.val (.ref a1)] [(.ref a1)])) rfl rfl (hb hby d_prog_5_method_17_code_1)
  refine Ends.step st1 ?_
  show Ends _ _ _ _ (T1.setTop (mkF m 4 #[.val (.ref a1)] [.null]))
  obtain ⟨_, _, ⟨T2, L2, k2, n2⟩, -, X2, ⟨Lc2, hQ2, l2, y2, z2⟩, st2⟩ := Jvm.LawKit.callS X1 hx (y := (⟨"java/util/Optional", "ofNullable", "(Ljava/lang/Object;)Ljava/util/Optional;"⟩ : MethodName)) hown (mvT hZ (hw _ (List.mem_of_getElem? (i := 72) rfl))) (mvT hZ (hw _ (List.mem_of_getElem? (i := 73) rfl))) (mvT hZ (hw _ (List.mem_of_getElem? (i := 74) rfl))) (mvT hZ (hw _ (List.mem_of_getElem? (i := 75) rfl))) (by decide) (backOf (W := 0) (rmOpNn l Z a0 hw []  h0 n0 Z0 G1 O2 P5 eA SE XE FE X00 ) hZ (hw _ (List.mem_of_getElem? (i := 75) rfl)) (hw _ (List.mem_of_getElem? (i := 74) rfl)) (by decide) (by decide)) (g := (mkF m 4 #[.val (.ref a1)] [.null])) rfl (by rw [hml]; rfl) (argsL := [.null]) (rest := []) (lenOf pd_4 rfl) rfl (by show 2 * 0 + _ ≤ _; exact Nat.le_of_eq rfl) (hb hby d_prog_5_method_17_code_4) (fun _ _ => ⟨rfl, e1, (by decide : 0 + 0 ≤ _), (by decide : 0 + 0 ≤ _)⟩)
  dsimp only [Pt.U, Pt.locs, Pt.cells, Pt.slots] at X2 l2 y2 z2 st2 hQ2
  subst l2 y2 z2
  obtain ⟨rfl, Nq2, eh2⟩ := hQ2
  have N2 := Fr.app N0 Nq2
  refine Ends.step st2 ?_
  show Ends _ _ _ _ (T2.setTop (mkF m 7 #[.val (.ref a1)] [(.ref eA)]))
  exact own_finR X2 hx hlk Bd.returns rfl rfl (hb hby d_prog_5_method_17_code_7) eh2 ⟨rfl, N2, rfl⟩ (by decide) (by decide)
def QrmGn_url (Z : State) (a1 : Addr) (eA : Addr) (h0 : Heap) (n0 : Nat) (v : Option Value) (h : Heap) (L : List Loc) : Prop := v = some (.ref eA) ∧ Fr n0 L ∧ h = h0
theorem ef_rmGn_url (m : MethodId) (a1 : Addr)  : entryFrame m #[(.ref a1)] 1 = mkF m 0 #[.val (.ref a1)] [] := by first | (simp [entryFrame, mkF, argsToLocals, maxLocals, Value.category]; done) | rfl
set_option maxRecDepth 65536 in
set_option maxHeartbeats 40000000 in
theorem rmGn_url (l : Launch) (Z : State) (a0 : Array Value) (hw : ∀ d ∈ tables_1, d.before a0 Z = true) (ws : List Jvm.Cond) (a1 : Addr) (h0 : Heap) (n0 : Nat) (Z0 : n0 ≤ h0.size) (G1 : Int32) (O2 : Sta Z Z.heap "java/lang/String" "COMPACT_STRINGS" "Z" (.int G1)) (P5 : ¬ (G1 = (0 : Int32))) (eA : Addr) (SE : Sta Z Z.heap "java/util/Optional" "EMPTY" "Ljava/util/Optional;" (.ref eA)) (XE : Exa Z Z.heap eA "java/util/Optional") (FE : Fld Z Z.heap eA "java/util/Optional" "value" "Ljava/lang/Object;" .null) (X00 : Old Z n0 h0) (p_Fld_a1_url : Fld Z h0 a1 "com/example/operatory/operatory/fhir/SearchValue$Alternative" "url" "Ljava/lang/String;" .null) :
    MetFree l (⟨"com/example/operatory/operatory/fhir/SearchValue$Alternative", "url", "()Ljava/util/Optional;"⟩ : MethodName) (head1 (Jvm.Cond.code (⟨"com/example/operatory/operatory/fhir/SearchValue$Alternative", "url", "()Ljava/util/Optional;"⟩ : MethodName) prog_5_method_19_code 1 (Option.some (Jvm.ClassFile.FieldType.object "java/util/Optional")) :: ws) ({ frames := 1, cells := 0, slots := 0, locals := 12 } : Room)) (fun a U => a = #[(.ref a1)] ∧ Z.Warmed39 U.vm ∧ U.heap = h0) (fun _ _ _ _ _ => True) (fun _ U o U' => ∃ v L, o = .returned v ∧ QrmGn_url Z a1 eA h0 n0 v U'.heap L ∧ FrameEnd U o U' L ({ frames := 1, cells := 0, slots := 0, locals := 12 } : Room).cells ({ frames := 1, cells := 0, slots := 0, locals := 12 } : Room).slots) := by
  refine MetFree.of_bodySF (plainFor_of_name pn_com_example_operatory_operatory_fhir_SearchValue_Alternative) hisR ?_
  intro p e s m args below meth c s₁ Bd hml0 hP hK
  obtain ⟨rfl, hZ, hh⟩ := hP
  have hx := Bd.exec
  have hby := Bd.bytes
  have hml : c.maxLocals = 1 := hml0
  have hown : s.vm.findClass "com/example/operatory/operatory/fhir/SearchValue$Alternative" = some m.cls := findClass_of_methodNamed Bd.named
  have hnm := (name_of_methodNamed Bd.named Bd.method).1
  have hlk : meth.locks = false := BodyLoose.notSynchronized Bd
  have X0 : Stand p l e ({ frames := 1, cells := 0, slots := 0, locals := 12 } : Room) s m #[(.ref a1)] below meth c s₁ [] 0 0 := Stand.of_body Bd
  have e0 : s₁.heap = h0 := by rw [← hh, Bd.state]; rfl
  have N0 := Fr.nil n0
  show Ends p.tables e below (fun o U' => ∃ v L, o = .returned v ∧ QrmGn_url Z a1 eA h0 n0 v U'.heap L ∧ FrameEnd s o U' L ({ frames := 1, cells := 0, slots := 0, locals := 12 } : Room).cells ({ frames := 1, cells := 0, slots := 0, locals := 12 } : Room).slots) (s₁.setTop (entryFrame m #[(.ref a1)] 1))
  refine Ends.step (fun t k => castTop (ef_rmGn_url m a1 ) k) ?_
  show Ends _ _ _ _ (s₁.setTop (mkF m 0 #[.val (.ref a1)] []))
  refine Ends.step (fun t k => XS.aloadN X0.here hx rfl (hb hby d_prog_5_method_19_code_0) rfl rfl k) ?_
  show Ends _ _ _ _ (s₁.setTop (mkF m 1 #[.val (.ref a1)] [(.ref a1)]))
  obtain ⟨T1, X1, e1, st1⟩ := getF X0 hx hZ hown (host := "") (Or.inl (hw _ (List.mem_of_getElem? (i := 58) rfl))) Via.refl e0 p_Fld_a1_url (g := (mkF m 1 #[.val (.ref a1)] [(.ref a1)])) rfl rfl (hb hby d_prog_5_method_19_code_1)
  refine Ends.step st1 ?_
  show Ends _ _ _ _ (T1.setTop (mkF m 4 #[.val (.ref a1)] [.null]))
  obtain ⟨_, _, ⟨T2, L2, k2, n2⟩, -, X2, ⟨Lc2, hQ2, l2, y2, z2⟩, st2⟩ := Jvm.LawKit.callS X1 hx (y := (⟨"java/util/Optional", "ofNullable", "(Ljava/lang/Object;)Ljava/util/Optional;"⟩ : MethodName)) hown (mvT hZ (hw _ (List.mem_of_getElem? (i := 72) rfl))) (mvT hZ (hw _ (List.mem_of_getElem? (i := 73) rfl))) (mvT hZ (hw _ (List.mem_of_getElem? (i := 74) rfl))) (mvT hZ (hw _ (List.mem_of_getElem? (i := 75) rfl))) (by decide) (backOf (W := 0) (rmOpNn l Z a0 hw []  h0 n0 Z0 G1 O2 P5 eA SE XE FE X00 ) hZ (hw _ (List.mem_of_getElem? (i := 75) rfl)) (hw _ (List.mem_of_getElem? (i := 74) rfl)) (by decide) (by decide)) (g := (mkF m 4 #[.val (.ref a1)] [.null])) rfl (by rw [hml]; rfl) (argsL := [.null]) (rest := []) (lenOf pd_4 rfl) rfl (by show 2 * 0 + _ ≤ _; exact Nat.le_of_eq rfl) (hb hby d_prog_5_method_19_code_4) (fun _ _ => ⟨rfl, e1, (by decide : 0 + 0 ≤ _), (by decide : 0 + 0 ≤ _)⟩)
  dsimp only [Pt.U, Pt.locs, Pt.cells, Pt.slots] at X2 l2 y2 z2 st2 hQ2
  subst l2 y2 z2
  obtain ⟨rfl, Nq2, eh2⟩ := hQ2
  have N2 := Fr.app N0 Nq2
  refine Ends.step st2 ?_
  show Ends _ _ _ _ (T2.setTop (mkF m 7 #[.val (.ref a1)] [(.ref eA)]))
  exact own_finR X2 hx hlk Bd.returns rfl rfl (hb hby d_prog_5_method_19_code_7) eh2 ⟨rfl, N2, rfl⟩ (by decide) (by decide)
def QrmGn_missing (Z : State) (a1 : Addr) (eA : Addr) (h0 : Heap) (n0 : Nat) (v : Option Value) (h : Heap) (L : List Loc) : Prop := v = some (.ref eA) ∧ Fr n0 L ∧ h = h0
theorem ef_rmGn_missing (m : MethodId) (a1 : Addr)  : entryFrame m #[(.ref a1)] 1 = mkF m 0 #[.val (.ref a1)] [] := by first | (simp [entryFrame, mkF, argsToLocals, maxLocals, Value.category]; done) | rfl
set_option maxRecDepth 65536 in
set_option maxHeartbeats 40000000 in
theorem rmGn_missing (l : Launch) (Z : State) (a0 : Array Value) (hw : ∀ d ∈ tables_1, d.before a0 Z = true) (ws : List Jvm.Cond) (a1 : Addr) (h0 : Heap) (n0 : Nat) (Z0 : n0 ≤ h0.size) (G1 : Int32) (O2 : Sta Z Z.heap "java/lang/String" "COMPACT_STRINGS" "Z" (.int G1)) (P5 : ¬ (G1 = (0 : Int32))) (eA : Addr) (SE : Sta Z Z.heap "java/util/Optional" "EMPTY" "Ljava/util/Optional;" (.ref eA)) (XE : Exa Z Z.heap eA "java/util/Optional") (FE : Fld Z Z.heap eA "java/util/Optional" "value" "Ljava/lang/Object;" .null) (X00 : Old Z n0 h0) (p_Fld_a1_missing : Fld Z h0 a1 "com/example/operatory/operatory/fhir/SearchValue$Alternative" "missing" "Ljava/lang/Boolean;" .null) :
    MetFree l (⟨"com/example/operatory/operatory/fhir/SearchValue$Alternative", "missing", "()Ljava/util/Optional;"⟩ : MethodName) (head1 (Jvm.Cond.code (⟨"com/example/operatory/operatory/fhir/SearchValue$Alternative", "missing", "()Ljava/util/Optional;"⟩ : MethodName) prog_5_method_20_code 1 (Option.some (Jvm.ClassFile.FieldType.object "java/util/Optional")) :: ws) ({ frames := 1, cells := 0, slots := 0, locals := 12 } : Room)) (fun a U => a = #[(.ref a1)] ∧ Z.Warmed39 U.vm ∧ U.heap = h0) (fun _ _ _ _ _ => True) (fun _ U o U' => ∃ v L, o = .returned v ∧ QrmGn_missing Z a1 eA h0 n0 v U'.heap L ∧ FrameEnd U o U' L ({ frames := 1, cells := 0, slots := 0, locals := 12 } : Room).cells ({ frames := 1, cells := 0, slots := 0, locals := 12 } : Room).slots) := by
  refine MetFree.of_bodySF (plainFor_of_name pn_com_example_operatory_operatory_fhir_SearchValue_Alternative) hisR ?_
  intro p e s m args below meth c s₁ Bd hml0 hP hK
  obtain ⟨rfl, hZ, hh⟩ := hP
  have hx := Bd.exec
  have hby := Bd.bytes
  have hml : c.maxLocals = 1 := hml0
  have hown : s.vm.findClass "com/example/operatory/operatory/fhir/SearchValue$Alternative" = some m.cls := findClass_of_methodNamed Bd.named
  have hnm := (name_of_methodNamed Bd.named Bd.method).1
  have hlk : meth.locks = false := BodyLoose.notSynchronized Bd
  have X0 : Stand p l e ({ frames := 1, cells := 0, slots := 0, locals := 12 } : Room) s m #[(.ref a1)] below meth c s₁ [] 0 0 := Stand.of_body Bd
  have e0 : s₁.heap = h0 := by rw [← hh, Bd.state]; rfl
  have N0 := Fr.nil n0
  show Ends p.tables e below (fun o U' => ∃ v L, o = .returned v ∧ QrmGn_missing Z a1 eA h0 n0 v U'.heap L ∧ FrameEnd s o U' L ({ frames := 1, cells := 0, slots := 0, locals := 12 } : Room).cells ({ frames := 1, cells := 0, slots := 0, locals := 12 } : Room).slots) (s₁.setTop (entryFrame m #[(.ref a1)] 1))
  refine Ends.step (fun t k => castTop (ef_rmGn_missing m a1 ) k) ?_
  show Ends _ _ _ _ (s₁.setTop (mkF m 0 #[.val (.ref a1)] []))
  refine Ends.step (fun t k => XS.aloadN X0.here hx rfl (hb hby d_prog_5_method_20_code_0) rfl rfl k) ?_
  show Ends _ _ _ _ (s₁.setTop (mkF m 1 #[.val (.ref a1)] [(.ref a1)]))
  obtain ⟨T1, X1, e1, st1⟩ := getF X0 hx hZ hown (host := "") (Or.inl (hw _ (List.mem_of_getElem? (i := 60) rfl))) Via.refl e0 p_Fld_a1_missing (g := (mkF m 1 #[.val (.ref a1)] [(.ref a1)])) rfl rfl (hb hby d_prog_5_method_20_code_1)
  refine Ends.step st1 ?_
  show Ends _ _ _ _ (T1.setTop (mkF m 4 #[.val (.ref a1)] [.null]))
  obtain ⟨_, _, ⟨T2, L2, k2, n2⟩, -, X2, ⟨Lc2, hQ2, l2, y2, z2⟩, st2⟩ := Jvm.LawKit.callS X1 hx (y := (⟨"java/util/Optional", "ofNullable", "(Ljava/lang/Object;)Ljava/util/Optional;"⟩ : MethodName)) hown (mvT hZ (hw _ (List.mem_of_getElem? (i := 72) rfl))) (mvT hZ (hw _ (List.mem_of_getElem? (i := 73) rfl))) (mvT hZ (hw _ (List.mem_of_getElem? (i := 74) rfl))) (mvT hZ (hw _ (List.mem_of_getElem? (i := 75) rfl))) (by decide) (backOf (W := 0) (rmOpNn l Z a0 hw []  h0 n0 Z0 G1 O2 P5 eA SE XE FE X00 ) hZ (hw _ (List.mem_of_getElem? (i := 75) rfl)) (hw _ (List.mem_of_getElem? (i := 74) rfl)) (by decide) (by decide)) (g := (mkF m 4 #[.val (.ref a1)] [.null])) rfl (by rw [hml]; rfl) (argsL := [.null]) (rest := []) (lenOf pd_4 rfl) rfl (by show 2 * 0 + _ ≤ _; exact Nat.le_of_eq rfl) (hb hby d_prog_5_method_20_code_4) (fun _ _ => ⟨rfl, e1, (by decide : 0 + 0 ≤ _), (by decide : 0 + 0 ≤ _)⟩)
  dsimp only [Pt.U, Pt.locs, Pt.cells, Pt.slots] at X2 l2 y2 z2 st2 hQ2
  subst l2 y2 z2
  obtain ⟨rfl, Nq2, eh2⟩ := hQ2
  have N2 := Fr.app N0 Nq2
  refine Ends.step st2 ?_
  show Ends _ _ _ _ (T2.setTop (mkF m 7 #[.val (.ref a1)] [(.ref eA)]))
  exact own_finR X2 hx hlk Bd.returns rfl rfl (hb hby d_prog_5_method_20_code_7) eh2 ⟨rfl, N2, rfl⟩ (by decide) (by decide)
def QrmNs0 (Z : State) (a1 : Addr) (h0 : Heap) (n0 : Nat) (v : Option Value) (h : Heap) (L : List Loc) : Prop := v = some (.int (0 : Int32)) ∧ Fr n0 L ∧ h = h0
theorem ef_rmNs0 (m : MethodId) (a1 : Addr)  : entryFrame m #[(.ref a1)] 1 = mkF m 0 #[.val (.ref a1)] [] := by first | (simp [entryFrame, mkF, argsToLocals, maxLocals, Value.category]; done) | rfl
set_option maxRecDepth 65536 in
set_option maxHeartbeats 40000000 in
theorem rmNs0 (l : Launch) (Z : State) (a0 : Array Value) (hw : ∀ d ∈ tables_1, d.before a0 Z = true) (ws : List Jvm.Cond) (a1 : Addr) (h0 : Heap) (n0 : Nat) (Z0 : n0 ≤ h0.size) (G1 : Int32) (O2 : Sta Z Z.heap "java/lang/String" "COMPACT_STRINGS" "Z" (.int G1)) (P5 : ¬ (G1 = (0 : Int32))) (eA : Addr) (SE : Sta Z Z.heap "java/util/Optional" "EMPTY" "Ljava/util/Optional;" (.ref eA)) (XE : Exa Z Z.heap eA "java/util/Optional") (FE : Fld Z Z.heap eA "java/util/Optional" "value" "Ljava/lang/Object;" .null) (X00 : Old Z n0 h0) (p_Fld_a1_noSystem : Fld Z h0 a1 "com/example/operatory/operatory/fhir/SearchValue$Alternative" "noSystem" "Z" (.int (0 : Int32))) :
    MetFree l (⟨"com/example/operatory/operatory/fhir/SearchValue$Alternative", "noSystem", "()Z"⟩ : MethodName) (head1 (Jvm.Cond.code (⟨"com/example/operatory/operatory/fhir/SearchValue$Alternative", "noSystem", "()Z"⟩ : MethodName) prog_5_method_14_code 1 (Option.some Jvm.ClassFile.FieldType.boolean) :: ws) ({ frames := 0, cells := 0, slots := 0, locals := 0 } : Room)) (fun a U => a = #[(.ref a1)] ∧ Z.Warmed39 U.vm ∧ U.heap = h0) (fun _ _ _ _ _ => True) (fun _ U o U' => ∃ v L, o = .returned v ∧ QrmNs0 Z a1 h0 n0 v U'.heap L ∧ FrameEnd U o U' L ({ frames := 0, cells := 0, slots := 0, locals := 0 } : Room).cells ({ frames := 0, cells := 0, slots := 0, locals := 0 } : Room).slots) := by
  refine MetFree.of_bodySF (plainFor_of_name pn_com_example_operatory_operatory_fhir_SearchValue_Alternative) hisR ?_
  intro p e s m args below meth c s₁ Bd hml0 hP hK
  obtain ⟨rfl, hZ, hh⟩ := hP
  have hx := Bd.exec
  have hby := Bd.bytes
  have hml : c.maxLocals = 1 := hml0
  have hown : s.vm.findClass "com/example/operatory/operatory/fhir/SearchValue$Alternative" = some m.cls := findClass_of_methodNamed Bd.named
  have hnm := (name_of_methodNamed Bd.named Bd.method).1
  have hlk : meth.locks = false := BodyLoose.notSynchronized Bd
  have X0 : Stand p l e ({ frames := 0, cells := 0, slots := 0, locals := 0 } : Room) s m #[(.ref a1)] below meth c s₁ [] 0 0 := Stand.of_body Bd
  have e0 : s₁.heap = h0 := by rw [← hh, Bd.state]; rfl
  have N0 := Fr.nil n0
  show Ends p.tables e below (fun o U' => ∃ v L, o = .returned v ∧ QrmNs0 Z a1 h0 n0 v U'.heap L ∧ FrameEnd s o U' L ({ frames := 0, cells := 0, slots := 0, locals := 0 } : Room).cells ({ frames := 0, cells := 0, slots := 0, locals := 0 } : Room).slots) (s₁.setTop (entryFrame m #[(.ref a1)] 1))
  refine Ends.step (fun t k => castTop (ef_rmNs0 m a1 ) k) ?_
  show Ends _ _ _ _ (s₁.setTop (mkF m 0 #[.val (.ref a1)] []))
  refine Ends.step (fun t k => XS.aloadN X0.here hx rfl (hb hby d_prog_5_method_14_code_0) rfl rfl k) ?_
  show Ends _ _ _ _ (s₁.setTop (mkF m 1 #[.val (.ref a1)] [(.ref a1)]))
  obtain ⟨T1, X1, e1, st1⟩ := getF X0 hx hZ hown (host := "") (Or.inl (hw _ (List.mem_of_getElem? (i := 48) rfl))) Via.refl e0 p_Fld_a1_noSystem (g := (mkF m 1 #[.val (.ref a1)] [(.ref a1)])) rfl rfl (hb hby d_prog_5_method_14_code_1)
  refine Ends.step st1 ?_
  show Ends _ _ _ _ (T1.setTop (mkF m 4 #[.val (.ref a1)] [(.int (0 : Int32))]))
  exact own_finI X1 hx hlk (t := .boolean) Bd.returns (by simp) rfl (hb hby d_prog_5_method_14_code_4) e1 ⟨rfl, N0, rfl⟩ (by decide) (by decide)
def QrmNs1 (Z : State) (a1 : Addr) (h0 : Heap) (n0 : Nat) (v : Option Value) (h : Heap) (L : List Loc) : Prop := v = some (.int (1 : Int32)) ∧ Fr n0 L ∧ h = h0
theorem ef_rmNs1 (m : MethodId) (a1 : Addr)  : entryFrame m #[(.ref a1)] 1 = mkF m 0 #[.val (.ref a1)] [] := by first | (simp [entryFrame, mkF, argsToLocals, maxLocals, Value.category]; done) | rfl
set_option maxRecDepth 65536 in
set_option maxHeartbeats 40000000 in
theorem rmNs1 (l : Launch) (Z : State) (a0 : Array Value) (hw : ∀ d ∈ tables_1, d.before a0 Z = true) (ws : List Jvm.Cond) (a1 : Addr) (h0 : Heap) (n0 : Nat) (Z0 : n0 ≤ h0.size) (G1 : Int32) (O2 : Sta Z Z.heap "java/lang/String" "COMPACT_STRINGS" "Z" (.int G1)) (P5 : ¬ (G1 = (0 : Int32))) (eA : Addr) (SE : Sta Z Z.heap "java/util/Optional" "EMPTY" "Ljava/util/Optional;" (.ref eA)) (XE : Exa Z Z.heap eA "java/util/Optional") (FE : Fld Z Z.heap eA "java/util/Optional" "value" "Ljava/lang/Object;" .null) (X00 : Old Z n0 h0) (p_Fld_a1_noSystem : Fld Z h0 a1 "com/example/operatory/operatory/fhir/SearchValue$Alternative" "noSystem" "Z" (.int (1 : Int32))) :
    MetFree l (⟨"com/example/operatory/operatory/fhir/SearchValue$Alternative", "noSystem", "()Z"⟩ : MethodName) (head1 (Jvm.Cond.code (⟨"com/example/operatory/operatory/fhir/SearchValue$Alternative", "noSystem", "()Z"⟩ : MethodName) prog_5_method_14_code 1 (Option.some Jvm.ClassFile.FieldType.boolean) :: ws) ({ frames := 0, cells := 0, slots := 0, locals := 0 } : Room)) (fun a U => a = #[(.ref a1)] ∧ Z.Warmed39 U.vm ∧ U.heap = h0) (fun _ _ _ _ _ => True) (fun _ U o U' => ∃ v L, o = .returned v ∧ QrmNs1 Z a1 h0 n0 v U'.heap L ∧ FrameEnd U o U' L ({ frames := 0, cells := 0, slots := 0, locals := 0 } : Room).cells ({ frames := 0, cells := 0, slots := 0, locals := 0 } : Room).slots) := by
  refine MetFree.of_bodySF (plainFor_of_name pn_com_example_operatory_operatory_fhir_SearchValue_Alternative) hisR ?_
  intro p e s m args below meth c s₁ Bd hml0 hP hK
  obtain ⟨rfl, hZ, hh⟩ := hP
  have hx := Bd.exec
  have hby := Bd.bytes
  have hml : c.maxLocals = 1 := hml0
  have hown : s.vm.findClass "com/example/operatory/operatory/fhir/SearchValue$Alternative" = some m.cls := findClass_of_methodNamed Bd.named
  have hnm := (name_of_methodNamed Bd.named Bd.method).1
  have hlk : meth.locks = false := BodyLoose.notSynchronized Bd
  have X0 : Stand p l e ({ frames := 0, cells := 0, slots := 0, locals := 0 } : Room) s m #[(.ref a1)] below meth c s₁ [] 0 0 := Stand.of_body Bd
  have e0 : s₁.heap = h0 := by rw [← hh, Bd.state]; rfl
  have N0 := Fr.nil n0
  show Ends p.tables e below (fun o U' => ∃ v L, o = .returned v ∧ QrmNs1 Z a1 h0 n0 v U'.heap L ∧ FrameEnd s o U' L ({ frames := 0, cells := 0, slots := 0, locals := 0 } : Room).cells ({ frames := 0, cells := 0, slots := 0, locals := 0 } : Room).slots) (s₁.setTop (entryFrame m #[(.ref a1)] 1))
  refine Ends.step (fun t k => castTop (ef_rmNs1 m a1 ) k) ?_
  show Ends _ _ _ _ (s₁.setTop (mkF m 0 #[.val (.ref a1)] []))
  refine Ends.step (fun t k => XS.aloadN X0.here hx rfl (hb hby d_prog_5_method_14_code_0) rfl rfl k) ?_
  show Ends _ _ _ _ (s₁.setTop (mkF m 1 #[.val (.ref a1)] [(.ref a1)]))
  obtain ⟨T1, X1, e1, st1⟩ := getF X0 hx hZ hown (host := "") (Or.inl (hw _ (List.mem_of_getElem? (i := 48) rfl))) Via.refl e0 p_Fld_a1_noSystem (g := (mkF m 1 #[.val (.ref a1)] [(.ref a1)])) rfl rfl (hb hby d_prog_5_method_14_code_1)
  refine Ends.step st1 ?_
  show Ends _ _ _ _ (T1.setTop (mkF m 4 #[.val (.ref a1)] [(.int (1 : Int32))]))
  exact own_finI X1 hx hlk (t := .boolean) Bd.returns (by simp) rfl (hb hby d_prog_5_method_14_code_4) e1 ⟨rfl, N0, rfl⟩ (by decide) (by decide)
def Qrm0 (Z : State) (p1 : Int32) (p2 : Int32) (p3 : Int32) (p4 : Int32) (p5 : Int32) (h0 : Heap) (n0 : Nat) (v : Option Value) (h : Heap) (L : List Loc) : Prop := v = some (.int (1 : Int32)) ∧ Fr n0 L ∧ Keep h0 h []
theorem ef_rm0 (m : MethodId) (p1 : Int32) (p2 : Int32) (p3 : Int32) (p4 : Int32) (p5 : Int32)  : entryFrame m #[(.int p1), (.int p2), (.int p3), (.int p4), (.int p5)] maxLocals = mkF m 0 #[.val (.int p1), .val (.int p2), .val (.int p3), .val (.int p4), .val (.int p5), .unset, .unset, .unset, .unset, .unset, .unset, .unset] [] := by first | (simp [entryFrame, mkF, argsToLocals, maxLocals, Value.category]; done) | rfl
set_option maxRecDepth 65536 in
set_option maxHeartbeats 40000000 in
theorem rm0 (l : Launch) (Z : State) (a0 : Array Value) (hw : ∀ d ∈ tables_1, d.before a0 Z = true) (ws : List Jvm.Cond) (p1 : Int32) (p2 : Int32) (p3 : Int32) (p4 : Int32) (p5 : Int32) (h0 : Heap) (n0 : Nat) (Z0 : n0 ≤ h0.size) (G1 : Int32) (O2 : Sta Z Z.heap "java/lang/String" "COMPACT_STRINGS" "Z" (.int G1)) (P5 : ¬ (G1 = (0 : Int32))) (eA : Addr) (SE : Sta Z Z.heap "java/util/Optional" "EMPTY" "Ljava/util/Optional;" (.ref eA)) (XE : Exa Z Z.heap eA "java/util/Optional") (FE : Fld Z Z.heap eA "java/util/Optional" "value" "Ljava/lang/Object;" .null) (X00 : Old Z n0 h0)  :
    MetFree l x (head1 (Jvm.Cond.code x code maxLocals ret :: ws) room_1) (fun a U => a = #[(.int p1), (.int p2), (.int p3), (.int p4), (.int p5)] ∧ Z.Warmed39 U.vm ∧ U.heap = h0 ∧ CHv Z consts_1 U.vm h0) (fun _ _ _ _ _ => True) (fun _ U o U' => ∃ v L, o = .returned v ∧ Qrm0 Z p1 p2 p3 p4 p5 h0 n0 v U'.heap L ∧ CHr Z consts_1 U.vm U.heap U'.vm U'.heap ∧ ReturnedEndW U o U' L 48 1216) := by
  refine MetFree.of_bodySF (plainFor_of_name pn_com_example_operatory_operatory_fhir_AlternativeOfTokenPinLaw) hisR ?_
  intro p e s m args below meth c s₁ Bd hml0 hP hK
  obtain ⟨rfl, hZ, hh, CH0⟩ := hP
  have hx := Bd.exec
  have hby := Bd.bytes
  have hml : c.maxLocals = 12 := hml0
  have hown : s.vm.findClass "com/example/operatory/operatory/fhir/AlternativeOfTokenPinLaw" = some m.cls := findClass_of_methodNamed Bd.named
  have hnm := (name_of_methodNamed Bd.named Bd.method).1
  have hlk : meth.locks = false := BodyLoose.notSynchronized Bd
  have X0 : Stand p l e room_1 (s.setVm s.vm) m #[(.int p1), (.int p2), (.int p3), (.int p4), (.int p5)] below meth c s₁ [] 0 0 := Stand.of_body Bd
  have e0 : s₁.heap = h0 := by rw [← hh, Bd.state]; rfl
  have N0 := Fr.nil n0
  have hS0 : s.Since s.vm 0 := (State.WarmedH.refl s).since 0
  have CR0 : CHr Z consts_1 s.vm h0 s.vm h0 := CHr.refl CH0
  show Ends p.tables e below (fun o U' => ∃ v L, o = .returned v ∧ Qrm0 Z p1 p2 p3 p4 p5 h0 n0 v U'.heap L ∧ CHr Z consts_1 s.vm s.heap U'.vm U'.heap ∧ ReturnedEndW s o U' L 48 1216) (s₁.setTop (entryFrame m #[(.int p1), (.int p2), (.int p3), (.int p4), (.int p5)] maxLocals))
  refine Ends.step (fun t k => castTop (ef_rm0 m p1 p2 p3 p4 p5 ) k) ?_
  show Ends _ _ _ _ (s₁.setTop (mkF m 0 #[.val (.int p1), .val (.int p2), .val (.int p3), .val (.int p4), .val (.int p5), .unset, .unset, .unset, .unset, .unset, .unset, .unset] []))
  refine Ends.step (fun t k => XS.iload X0.here hx rfl (hb hby at_0) rfl k) ?_
  show Ends _ _ _ _ (s₁.setTop (mkF m 2 #[.val (.int p1), .val (.int p2), .val (.int p3), .val (.int p4), .val (.int p5), .unset, .unset, .unset, .unset, .unset, .unset, .unset] [(.int p5)]))
  refine Ends.step (fun t k => XS.iconst X0.here hx rfl (hb hby at_2) k) ?_
  show Ends _ _ _ _ (s₁.setTop (mkF m 3 #[.val (.int p1), .val (.int p2), .val (.int p3), .val (.int p4), .val (.int p5), .unset, .unset, .unset, .unset, .unset, .unset, .unset] [(.int (1 : Int32)), (.int p5)]))
  refine Ends.step (fun t k => XS.iand X0.here hx rfl (hb hby at_3) rfl k) ?_
  show Ends _ _ _ _ (s₁.setTop (mkF m 4 #[.val (.int p1), .val (.int p2), .val (.int p3), .val (.int p4), .val (.int p5), .unset, .unset, .unset, .unset, .unset, .unset, .unset] [(.int (p5 &&& (1 : Int32)))]))
  by_cases c1 : (p5 &&& (1 : Int32)) = (0 : Int32)
  · refine Ends.step (fun t k => XS.ifYes X0.here hx rfl (pc0 := 4) (pc' := 11) rfl (hb hby at_4) rfl ((if0 _ _).trans (teq c1).1) (by decide) (by decide) k) ?_
    show Ends _ _ _ _ (s₁.setTop (mkF m 11 #[.val (.int p1), .val (.int p2), .val (.int p3), .val (.int p4), .val (.int p5), .unset, .unset, .unset, .unset, .unset, .unset, .unset] []))
    refine Ends.step (fun t k => XS.iconst X0.here hx rfl (hb hby at_11) k) ?_
    show Ends _ _ _ _ (s₁.setTop (mkF m 12 #[.val (.int p1), .val (.int p2), .val (.int p3), .val (.int p4), .val (.int p5), .unset, .unset, .unset, .unset, .unset, .unset, .unset] [(.int (0 : Int32))]))
    refine Ends.step (fun t k => XS.istore X0.here hx rfl (hb hby at_12) rfl (l' := #[.val (.int p1), .val (.int p2), .val (.int p3), .val (.int p4), .val (.int p5), .val (.int (0 : Int32)), .unset, .unset, .unset, .unset, .unset, .unset]) rfl k) ?_
    show Ends _ _ _ _ (s₁.setTop (mkF m 14 #[.val (.int p1), .val (.int p2), .val (.int p3), .val (.int p4), .val (.int p5), .val (.int (0 : Int32)), .unset, .unset, .unset, .unset, .unset, .unset] []))
    refine Ends.step (fun t k => XS.iloadN X0.here hx rfl (hb hby at_14) rfl k) ?_
    show Ends _ _ _ _ (s₁.setTop (mkF m 15 #[.val (.int p1), .val (.int p2), .val (.int p3), .val (.int p4), .val (.int p5), .val (.int (0 : Int32)), .unset, .unset, .unset, .unset, .unset, .unset] [(.int p1)]))
    obtain ⟨_, _, ⟨T2, L2, k2, n2⟩, -, Xs2, hs2, hg2, ⟨Lc2, hQ2, l2, y2, z2, CRc2⟩, st2⟩ := callSS X0 hx (y := (⟨"com/example/operatory/operatory/fhir/AlternativeOfTokenPinLaw", "str", "(I)Ljava/lang/String;"⟩ : MethodName)) hown (mvT hZ (hw _ (List.mem_of_getElem? (i := 0) rfl))) (mvT hZ (hw _ (List.mem_of_getElem? (i := 1) rfl))) (mvT hZ (hw _ (List.mem_of_getElem? (i := 2) rfl))) (mvT hZ (hw _ (List.mem_of_getElem? (i := 3) rfl))) (by decide) (backOfSH (s := s) (vm0 := s.vm) (W := 0) (rmStr l Z a0 hw [] p1 h0 n0 Z0 G1 O2 P5 eA SE XE FE X00 ) hZ (hw _ (List.mem_of_getElem? (i := 3) rfl)) (hw _ (List.mem_of_getElem? (i := 2) rfl)) (by decide) (by decide) (own_hEL hw) CR0.1) (g := (mkF m 15 #[.val (.int p1), .val (.int p2), .val (.int p3), .val (.int p4), .val (.int p5), .val (.int (0 : Int32)), .unset, .unset, .unset, .unset, .unset, .unset] [(.int p1)])) rfl (by rw [hml]; rfl) (argsL := [(.int p1)]) (rest := []) (lenOf pd_5 rfl) rfl (by show 2 * 0 + _ ≤ _; exact Nat.le_of_eq rfl) (hb hby at_15) (fun _ _ => ⟨rfl, e0, (by decide : 0 + 4 ≤ _), (by decide : 0 + 8 ≤ _)⟩)
    dsimp only [Pt.U, Pt.locs, Pt.cells, Pt.slots] at Xs2 hs2 hg2 l2 y2 z2 st2 hQ2 CRc2
    subst l2 y2 z2
    obtain ⟨X2, hS2, hZ2, hown2⟩ := rebS hS0 (Nat.le_trans (Nat.zero_le _) (Nat.le_of_eq (congrArg Array.size (Eq.symm e0)))) Xs2 hs2 hg2 hZ hown
    have CR2 := CR0.trans CRc2
    obtain ⟨x_2, rfl, Nq2, K2, f2_0, f2_1⟩ := hQ2
    have N2 := Fr.app N0 Nq2
    refine Ends.go st2 ?_
    show Ends _ _ _ _ (T2.setTop (mkF m 18 #[.val (.int p1), .val (.int p2), .val (.int p3), .val (.int p4), .val (.int p5), .val (.int (0 : Int32)), .unset, .unset, .unset, .unset, .unset, .unset] [(.ref x_2)]))
    refine Ends.step (fun t k => XS.astore X2.here hx rfl (hb hby at_18) rfl rfl (l' := #[.val (.int p1), .val (.int p2), .val (.int p3), .val (.int p4), .val (.int p5), .val (.int (0 : Int32)), .val (.ref x_2), .unset, .unset, .unset, .unset, .unset]) rfl k) ?_
    show Ends _ _ _ _ (T2.setTop (mkF m 20 #[.val (.int p1), .val (.int p2), .val (.int p3), .val (.int p4), .val (.int p5), .val (.int (0 : Int32)), .val (.ref x_2), .unset, .unset, .unset, .unset, .unset] []))
    refine Ends.step (fun t k => XS.iload X2.here hx rfl (hb hby at_20) rfl k) ?_
    show Ends _ _ _ _ (T2.setTop (mkF m 22 #[.val (.int p1), .val (.int p2), .val (.int p3), .val (.int p4), .val (.int p5), .val (.int (0 : Int32)), .val (.ref x_2), .unset, .unset, .unset, .unset, .unset] [(.int p5)]))
    refine Ends.step (fun t k => XS.iconst X2.here hx rfl (hb hby at_22) k) ?_
    show Ends _ _ _ _ (T2.setTop (mkF m 23 #[.val (.int p1), .val (.int p2), .val (.int p3), .val (.int p4), .val (.int p5), .val (.int (0 : Int32)), .val (.ref x_2), .unset, .unset, .unset, .unset, .unset] [(.int (2 : Int32)), (.int p5)]))
    refine Ends.step (fun t k => XS.iand X2.here hx rfl (hb hby at_23) rfl k) ?_
    show Ends _ _ _ _ (T2.setTop (mkF m 24 #[.val (.int p1), .val (.int p2), .val (.int p3), .val (.int p4), .val (.int p5), .val (.int (0 : Int32)), .val (.ref x_2), .unset, .unset, .unset, .unset, .unset] [(.int (p5 &&& (2 : Int32)))]))
    have J6 : ∀ (w5 : Value) (vm7 : Vm) (T7 : State) (h7 : Heap) (L7 : List Loc) (X7 : Stand p l e room_1 (s.setVm vm7) m #[(.int p1), (.int p2), (.int p3), (.int p4), (.int p5)] below meth c T7 L7 8 16) (e7 : T7.heap = h7) (N7 : Fr n0 L7) (K7 : Keep T2.heap h7 []) (kk7 : Nat) (hZ7 : Z.Warmed39 (s.setVm vm7).vm) (hown7 : (s.setVm vm7).vm.findClass "com/example/operatory/operatory/fhir/AlternativeOfTokenPinLaw" = some m.cls) (hS7 : s.Since vm7 kk7) (hk7 : kk7 ≤ h7.size) (CR7 : CHr Z consts_1 s.vm h0 vm7 h7) (hw5 : Value.isRef w5 = true), Ends p.tables e below (fun o U' => ∃ v L, o = .returned v ∧ Qrm0 Z p1 p2 p3 p4 p5 h0 n0 v U'.heap L ∧ CHr Z consts_1 s.vm s.heap U'.vm U'.heap ∧ ReturnedEndW s o U' L 48 1216) (T7.setTop (mkF m 35 #[.val (.int p1), .val (.int p2), .val (.int p3), .val (.int p4), .val (.int p5), .val (.int (0 : Int32)), .val (.ref x_2), .unset, .unset, .unset, .unset, .unset] [w5])) := by
      intro w5 vm7 T7 h7 L7 X7 e7 N7 K7 kk7 hZ7 hown7 hS7 hk7 CR7 hw5
      show Ends _ _ _ _ (T7.setTop (mkF m 35 #[.val (.int p1), .val (.int p2), .val (.int p3), .val (.int p4), .val (.int p5), .val (.int (0 : Int32)), .val (.ref x_2), .unset, .unset, .unset, .unset, .unset] [w5]))
      refine Ends.step (fun t k => XS.astore X7.here hx rfl (hb hby at_35) rfl hw5 (l' := #[.val (.int p1), .val (.int p2), .val (.int p3), .val (.int p4), .val (.int p5), .val (.int (0 : Int32)), .val (.ref x_2), .val w5, .unset, .unset, .unset, .unset]) (XS.store1 (o := .unset) rfl One.u (XT.cat1 hw5)) k) ?_
      show Ends _ _ _ _ (T7.setTop (mkF m 37 #[.val (.int p1), .val (.int p2), .val (.int p3), .val (.int p4), .val (.int p5), .val (.int (0 : Int32)), .val (.ref x_2), .val w5, .unset, .unset, .unset, .unset] []))
      refine Ends.step (fun t k => XS.iload X7.here hx rfl (hb hby at_37) rfl k) ?_
      show Ends _ _ _ _ (T7.setTop (mkF m 39 #[.val (.int p1), .val (.int p2), .val (.int p3), .val (.int p4), .val (.int p5), .val (.int (0 : Int32)), .val (.ref x_2), .val w5, .unset, .unset, .unset, .unset] [(.int p5)]))
      refine Ends.step (fun t k => XS.iconst X7.here hx rfl (hb hby at_39) k) ?_
      show Ends _ _ _ _ (T7.setTop (mkF m 40 #[.val (.int p1), .val (.int p2), .val (.int p3), .val (.int p4), .val (.int p5), .val (.int (0 : Int32)), .val (.ref x_2), .val w5, .unset, .unset, .unset, .unset] [(.int (4 : Int32)), (.int p5)]))
      refine Ends.step (fun t k => XS.iand X7.here hx rfl (hb hby at_40) rfl k) ?_
      show Ends _ _ _ _ (T7.setTop (mkF m 41 #[.val (.int p1), .val (.int p2), .val (.int p3), .val (.int p4), .val (.int p5), .val (.int (0 : Int32)), .val (.ref x_2), .val w5, .unset, .unset, .unset, .unset] [(.int (p5 &&& (4 : Int32)))]))
      have J11 : ∀ (w10 : Value) (vm12 : Vm) (T12 : State) (h12 : Heap) (L12 : List Loc) (X12 : Stand p l e room_1 (s.setVm vm12) m #[(.int p1), (.int p2), (.int p3), (.int p4), (.int p5)] below meth c T12 L12 12 24) (e12 : T12.heap = h12) (N12 : Fr n0 L12) (K12 : Keep h7 h12 []) (kk12 : Nat) (hZ12 : Z.Warmed39 (s.setVm vm12).vm) (hown12 : (s.setVm vm12).vm.findClass "com/example/operatory/operatory/fhir/AlternativeOfTokenPinLaw" = some m.cls) (hS12 : s.Since vm12 kk12) (hk12 : kk12 ≤ h12.size) (CR12 : CHr Z consts_1 s.vm h0 vm12 h12) (hw10 : Value.isRef w10 = true), Ends p.tables e below (fun o U' => ∃ v L, o = .returned v ∧ Qrm0 Z p1 p2 p3 p4 p5 h0 n0 v U'.heap L ∧ CHr Z consts_1 s.vm s.heap U'.vm U'.heap ∧ ReturnedEndW s o U' L 48 1216) (T12.setTop (mkF m 52 #[.val (.int p1), .val (.int p2), .val (.int p3), .val (.int p4), .val (.int p5), .val (.int (0 : Int32)), .val (.ref x_2), .val w5, .unset, .unset, .unset, .unset] [w10])) := by
        intro w10 vm12 T12 h12 L12 X12 e12 N12 K12 kk12 hZ12 hown12 hS12 hk12 CR12 hw10
        show Ends _ _ _ _ (T12.setTop (mkF m 52 #[.val (.int p1), .val (.int p2), .val (.int p3), .val (.int p4), .val (.int p5), .val (.int (0 : Int32)), .val (.ref x_2), .val w5, .unset, .unset, .unset, .unset] [w10]))
        refine Ends.step (fun t k => XS.astore X12.here hx rfl (hb hby at_52) rfl hw10 (l' := #[.val (.int p1), .val (.int p2), .val (.int p3), .val (.int p4), .val (.int p5), .val (.int (0 : Int32)), .val (.ref x_2), .val w5, .val w10, .unset, .unset, .unset]) (XS.store1 (o := .unset) rfl One.u (XT.cat1 hw10)) k) ?_
        show Ends _ _ _ _ (T12.setTop (mkF m 54 #[.val (.int p1), .val (.int p2), .val (.int p3), .val (.int p4), .val (.int p5), .val (.int (0 : Int32)), .val (.ref x_2), .val w5, .val w10, .unset, .unset, .unset] []))
        refine Ends.step (fun t k => XS.iload X12.here hx rfl (hb hby at_54) rfl k) ?_
        show Ends _ _ _ _ (T12.setTop (mkF m 56 #[.val (.int p1), .val (.int p2), .val (.int p3), .val (.int p4), .val (.int p5), .val (.int (0 : Int32)), .val (.ref x_2), .val w5, .val w10, .unset, .unset, .unset] [(.int p5)]))
        refine Ends.step (fun t k => XS.bipush X12.here hx rfl (hb hby at_56) k) ?_
        show Ends _ _ _ _ (T12.setTop (mkF m 58 #[.val (.int p1), .val (.int p2), .val (.int p3), .val (.int p4), .val (.int p5), .val (.int (0 : Int32)), .val (.ref x_2), .val w5, .val w10, .unset, .unset, .unset] [(.int (8 : Int32)), (.int p5)]))
        refine Ends.step (fun t k => XS.iand X12.here hx rfl (hb hby at_58) rfl k) ?_
        show Ends _ _ _ _ (T12.setTop (mkF m 59 #[.val (.int p1), .val (.int p2), .val (.int p3), .val (.int p4), .val (.int p5), .val (.int (0 : Int32)), .val (.ref x_2), .val w5, .val w10, .unset, .unset, .unset] [(.int (p5 &&& (8 : Int32)))]))
        have J16 : ∀ (w15 : Value) (vm17 : Vm) (T17 : State) (h17 : Heap) (L17 : List Loc) (X17 : Stand p l e room_1 (s.setVm vm17) m #[(.int p1), (.int p2), (.int p3), (.int p4), (.int p5)] below meth c T17 L17 16 32) (e17 : T17.heap = h17) (N17 : Fr n0 L17) (K17 : Keep h12 h17 []) (kk17 : Nat) (hZ17 : Z.Warmed39 (s.setVm vm17).vm) (hown17 : (s.setVm vm17).vm.findClass "com/example/operatory/operatory/fhir/AlternativeOfTokenPinLaw" = some m.cls) (hS17 : s.Since vm17 kk17) (hk17 : kk17 ≤ h17.size) (CR17 : CHr Z consts_1 s.vm h0 vm17 h17) (hw15 : Value.isRef w15 = true), Ends p.tables e below (fun o U' => ∃ v L, o = .returned v ∧ Qrm0 Z p1 p2 p3 p4 p5 h0 n0 v U'.heap L ∧ CHr Z consts_1 s.vm s.heap U'.vm U'.heap ∧ ReturnedEndW s o U' L 48 1216) (T17.setTop (mkF m 70 #[.val (.int p1), .val (.int p2), .val (.int p3), .val (.int p4), .val (.int p5), .val (.int (0 : Int32)), .val (.ref x_2), .val w5, .val w10, .unset, .unset, .unset] [w15])) := by
          intro w15 vm17 T17 h17 L17 X17 e17 N17 K17 kk17 hZ17 hown17 hS17 hk17 CR17 hw15
          show Ends _ _ _ _ (T17.setTop (mkF m 70 #[.val (.int p1), .val (.int p2), .val (.int p3), .val (.int p4), .val (.int p5), .val (.int (0 : Int32)), .val (.ref x_2), .val w5, .val w10, .unset, .unset, .unset] [w15]))
          refine Ends.step (fun t k => XS.astore X17.here hx rfl (hb hby at_70) rfl hw15 (l' := #[.val (.int p1), .val (.int p2), .val (.int p3), .val (.int p4), .val (.int p5), .val (.int (0 : Int32)), .val (.ref x_2), .val w5, .val w10, .val w15, .unset, .unset]) (XS.store1 (o := .unset) rfl One.u (XT.cat1 hw15)) k) ?_
          show Ends _ _ _ _ (T17.setTop (mkF m 72 #[.val (.int p1), .val (.int p2), .val (.int p3), .val (.int p4), .val (.int p5), .val (.int (0 : Int32)), .val (.ref x_2), .val w5, .val w10, .val w15, .unset, .unset] []))
          refine Ends.step (fun t k => XS.aload X17.here hx rfl (hb hby at_72) rfl rfl k) ?_
          show Ends _ _ _ _ (T17.setTop (mkF m 74 #[.val (.int p1), .val (.int p2), .val (.int p3), .val (.int p4), .val (.int p5), .val (.int (0 : Int32)), .val (.ref x_2), .val w5, .val w10, .val w15, .unset, .unset] [(.ref x_2)]))
          refine Ends.step (fun t k => XS.aload X17.here hx rfl (hb hby at_74) rfl hw5 k) ?_
          show Ends _ _ _ _ (T17.setTop (mkF m 76 #[.val (.int p1), .val (.int p2), .val (.int p3), .val (.int p4), .val (.int p5), .val (.int (0 : Int32)), .val (.ref x_2), .val w5, .val w10, .val w15, .unset, .unset] [w5, (.ref x_2)]))
          refine Ends.step (fun t k => XS.iload X17.here hx rfl (hb hby at_76) rfl k) ?_
          show Ends _ _ _ _ (T17.setTop (mkF m 78 #[.val (.int p1), .val (.int p2), .val (.int p3), .val (.int p4), .val (.int p5), .val (.int (0 : Int32)), .val (.ref x_2), .val w5, .val w10, .val w15, .unset, .unset] [(.int (0 : Int32)), w5, (.ref x_2)]))
          refine Ends.step (fun t k => XS.aload X17.here hx rfl (hb hby at_78) rfl hw10 k) ?_
          show Ends _ _ _ _ (T17.setTop (mkF m 80 #[.val (.int p1), .val (.int p2), .val (.int p3), .val (.int p4), .val (.int p5), .val (.int (0 : Int32)), .val (.ref x_2), .val w5, .val w10, .val w15, .unset, .unset] [w10, (.int (0 : Int32)), w5, (.ref x_2)]))
          refine Ends.step (fun t k => XS.aload X17.here hx rfl (hb hby at_80) rfl hw15 k) ?_
          show Ends _ _ _ _ (T17.setTop (mkF m 82 #[.val (.int p1), .val (.int p2), .val (.int p3), .val (.int p4), .val (.int p5), .val (.int (0 : Int32)), .val (.ref x_2), .val w5, .val w10, .val w15, .unset, .unset] [w15, w10, (.int (0 : Int32)), w5, (.ref x_2)]))
          have F18 : Old Z n0 h17 := ((((X00.keep K2 all0).keep K7 all0).keep K12 all0).keep K17 all0)
          obtain ⟨_, _, ⟨T19, L19, k19, n19⟩, -, X19, ⟨Lc19, hQ19, l19, y19, z19⟩, st19⟩ := Jvm.LawKit.callS X17 hx (y := (⟨"com/example/operatory/operatory/fhir/SearchValue$Alternative", "ofToken", "(Ljava/lang/String;Ljava/lang/String;ZLjava/lang/String;Ljava/lang/String;)Lcom/example/operatory/operatory/fhir/SearchValue$Alternative;"⟩ : MethodName)) hown17 (mvT hZ17 (hw _ (List.mem_of_getElem? (i := 26) rfl))) (mvT hZ17 (hw _ (List.mem_of_getElem? (i := 27) rfl))) (mvT hZ17 (hw _ (List.mem_of_getElem? (i := 28) rfl))) (mvT hZ17 (hw _ (List.mem_of_getElem? (i := 29) rfl))) (by decide) (backOf (W := 0) (rmOf l Z a0 hw [] x_2 w5 (0 : Int32) w10 w15 h17 n0 (Nat.le_trans Z0 (Nat.le_trans (Nat.le_trans (Nat.le_trans K2.1 K7.1) K12.1) K17.1)) G1 O2 P5 eA SE XE FE F18 hw5 hw10 hw15) hZ17 (hw _ (List.mem_of_getElem? (i := 29) rfl)) (hw _ (List.mem_of_getElem? (i := 28) rfl)) (by decide) (by decide)) (g := (mkF m 82 #[.val (.int p1), .val (.int p2), .val (.int p3), .val (.int p4), .val (.int p5), .val (.int (0 : Int32)), .val (.ref x_2), .val w5, .val w10, .val w15, .unset, .unset] [w15, w10, (.int (0 : Int32)), w5, (.ref x_2)])) rfl (by rw [hml]; rfl) (argsL := [(.ref x_2), w5, (.int (0 : Int32)), w10, w15]) (rest := []) (lenOf pd_6 rfl) rfl (by show 2 * 0 + _ ≤ _; exact Nat.le_of_eq rfl) (hb hby at_82) (fun _ _ => ⟨rfl, e17, (by decide : 16 + 1 ≤ _), (by decide : 32 + 13 ≤ _)⟩)
          dsimp only [Pt.U, Pt.locs, Pt.cells, Pt.slots] at X19 l19 y19 z19 st19 hQ19
          subst l19 y19 z19
          obtain ⟨x_19, rfl, Nq19, K19, f19_0, f19_1, f19_2, f19_3, f19_4, f19_5, f19_6, f19_7, f19_8, f19_9, f19_10, f19_11, f19_12, f19_13, f19_14⟩ := hQ19
          have N19 := Fr.app N17 Nq19
          refine Ends.step st19 ?_
          show Ends _ _ _ _ (T19.setTop (mkF m 85 #[.val (.int p1), .val (.int p2), .val (.int p3), .val (.int p4), .val (.int p5), .val (.int (0 : Int32)), .val (.ref x_2), .val w5, .val w10, .val w15, .unset, .unset] [(.ref x_19)]))
          refine Ends.step (fun t k => XS.astore X19.here hx rfl (hb hby at_85) rfl rfl (l' := #[.val (.int p1), .val (.int p2), .val (.int p3), .val (.int p4), .val (.int p5), .val (.int (0 : Int32)), .val (.ref x_2), .val w5, .val w10, .val w15, .val (.ref x_19), .unset]) rfl k) ?_
          show Ends _ _ _ _ (T19.setTop (mkF m 87 #[.val (.int p1), .val (.int p2), .val (.int p3), .val (.int p4), .val (.int p5), .val (.int (0 : Int32)), .val (.ref x_2), .val w5, .val w10, .val w15, .val (.ref x_19), .unset] []))
          refine Ends.step (fun t k => XS.aload X19.here hx rfl (hb hby at_87) rfl rfl k) ?_
          show Ends _ _ _ _ (T19.setTop (mkF m 89 #[.val (.int p1), .val (.int p2), .val (.int p3), .val (.int p4), .val (.int p5), .val (.int (0 : Int32)), .val (.ref x_2), .val w5, .val w10, .val w15, .val (.ref x_19), .unset] [(.ref x_19)]))
          have F20 : Old Z n0 T19.heap := (F18.keep K19 all0)
          obtain ⟨cq21, kq21, q21a, q21b, q21c⟩ := isOf hZ17 rfl f19_1
          obtain ⟨_, _, ⟨T21, L21, k21, n21⟩, -, X21, ⟨Lc21, hQ21, l21, y21, z21⟩, st21⟩ := X19.virtualBack hx (y := (⟨"com/example/operatory/operatory/fhir/SearchValue$Alternative", "text", "()Ljava/lang/String;"⟩ : MethodName)) (z := (⟨"com/example/operatory/operatory/fhir/SearchValue$Alternative", "text", "()Ljava/lang/String;"⟩ : MethodName)) hown17 (mvT hZ17 (hw _ (List.mem_of_getElem? (i := 62) rfl))) (mvT hZ17 (hw _ (List.mem_of_getElem? (i := 63) rfl))) (notFace_of_selects (args := #[]) (mvT hZ17 (hw _ (List.mem_of_getElem? (i := 65) rfl)))) (mvT hZ17 (hw _ (List.mem_of_getElem? (i := 65) rfl))) (mvT hZ17 (hw _ (List.mem_of_getElem? (i := 64) rfl))) (by decide) (backOf (W := 0) (rmText l Z a0 hw [] x_19 (.ref x_2) T19.heap n0 (Nat.le_trans Z0 (Nat.le_trans (Nat.le_trans (Nat.le_trans (Nat.le_trans K2.1 K7.1) K12.1) K17.1) K19.1)) G1 O2 P5 eA SE XE FE F20 f19_2 rfl) hZ17 (hw _ (List.mem_of_getElem? (i := 66) rfl)) (hw _ (List.mem_of_getElem? (i := 28) rfl)) (by decide) (by decide)) q21a q21c (g := (mkF m 89 #[.val (.int p1), .val (.int p2), .val (.int p3), .val (.int p4), .val (.int p5), .val (.int (0 : Int32)), .val (.ref x_2), .val w5, .val w10, .val w15, .val (.ref x_19), .unset] [(.ref x_19)])) rfl (by rw [hml]; rfl) (Steps.refl _) (argsL := []) (rest := []) (lenOf pd_7 rfl) rfl (by show 2 * 0 + _ ≤ _; exact Nat.le_of_eq rfl) (hb hby at_89) (fun _ _ => ⟨rfl, rfl, (by decide : 17 + 0 ≤ _), (by decide : 45 + 0 ≤ _)⟩)
          dsimp only [Pt.U, Pt.locs, Pt.cells, Pt.slots] at X21 l21 y21 z21 st21 hQ21
          subst l21 y21 z21
          obtain ⟨rfl, Nq21, eh21⟩ := hQ21
          have N21 := Fr.app N19 Nq21
          refine Ends.go st21 ?_
          show Ends _ _ _ _ (T21.setTop (mkF m 92 #[.val (.int p1), .val (.int p2), .val (.int p3), .val (.int p4), .val (.int p5), .val (.int (0 : Int32)), .val (.ref x_2), .val w5, .val w10, .val w15, .val (.ref x_19), .unset] [(.ref x_2)]))
          refine Ends.step (fun t k => XS.aload X21.here hx rfl (hb hby at_92) rfl rfl k) ?_
          show Ends _ _ _ _ (T21.setTop (mkF m 94 #[.val (.int p1), .val (.int p2), .val (.int p3), .val (.int p4), .val (.int p5), .val (.int (0 : Int32)), .val (.ref x_2), .val w5, .val w10, .val w15, .val (.ref x_19), .unset] [(.ref x_2), (.ref x_2)]))
          refine Ends.step (fun t k => acmp X21 hx rfl (x := (.ref x_2)) (y := (.ref x_2)) rfl rfl (pc0 := 94) (pc' := 97) (same := true) rfl (hb hby at_94) rfl (decide_eq_true rfl) (by decide) (by decide) k) ?_
          show Ends _ _ _ _ (T21.setTop (mkF m 97 #[.val (.int p1), .val (.int p2), .val (.int p3), .val (.int p4), .val (.int p5), .val (.int (0 : Int32)), .val (.ref x_2), .val w5, .val w10, .val w15, .val (.ref x_19), .unset] []))
          refine Ends.step (fun t k => XS.iconst X21.here hx rfl (hb hby at_97) k) ?_
          show Ends _ _ _ _ (T21.setTop (mkF m 98 #[.val (.int p1), .val (.int p2), .val (.int p3), .val (.int p4), .val (.int p5), .val (.int (0 : Int32)), .val (.ref x_2), .val w5, .val w10, .val w15, .val (.ref x_19), .unset] [(.int (1 : Int32))]))
          refine Ends.step (fun t k => XS.goto X21.here hx rfl (pc0 := 98) (pc' := 102) rfl (hb hby at_98) (by decide) (by decide) k) ?_
          show Ends _ _ _ _ (T21.setTop (mkF m 102 #[.val (.int p1), .val (.int p2), .val (.int p3), .val (.int p4), .val (.int p5), .val (.int (0 : Int32)), .val (.ref x_2), .val w5, .val w10, .val w15, .val (.ref x_19), .unset] [(.int (1 : Int32))]))
          refine Ends.step (fun t k => XS.istore X21.here hx rfl (hb hby at_102) rfl (l' := #[.val (.int p1), .val (.int p2), .val (.int p3), .val (.int p4), .val (.int p5), .val (.int (0 : Int32)), .val (.ref x_2), .val w5, .val w10, .val w15, .val (.ref x_19), .val (.int (1 : Int32))]) rfl k) ?_
          show Ends _ _ _ _ (T21.setTop (mkF m 104 #[.val (.int p1), .val (.int p2), .val (.int p3), .val (.int p4), .val (.int p5), .val (.int (0 : Int32)), .val (.ref x_2), .val w5, .val w10, .val w15, .val (.ref x_19), .val (.int (1 : Int32))] []))
          refine Ends.step (fun t k => XS.iload X21.here hx rfl (hb hby at_104) rfl k) ?_
          show Ends _ _ _ _ (T21.setTop (mkF m 106 #[.val (.int p1), .val (.int p2), .val (.int p3), .val (.int p4), .val (.int p5), .val (.int (0 : Int32)), .val (.ref x_2), .val w5, .val w10, .val w15, .val (.ref x_19), .val (.int (1 : Int32))] [(.int (1 : Int32))]))
          refine Ends.step (fun t k => XS.ifNo X21.here hx rfl (hb hby at_106) rfl ((if0 _ _).trans (feq (by decide : ¬ ((1 : Int32) = (0 : Int32)))).1) k) ?_
          show Ends _ _ _ _ (T21.setTop (mkF m 109 #[.val (.int p1), .val (.int p2), .val (.int p3), .val (.int p4), .val (.int p5), .val (.int (0 : Int32)), .val (.ref x_2), .val w5, .val w10, .val w15, .val (.ref x_19), .val (.int (1 : Int32))] []))
          refine Ends.step (fun t k => XS.aload X21.here hx rfl (hb hby at_109) rfl rfl k) ?_
          show Ends _ _ _ _ (T21.setTop (mkF m 111 #[.val (.int p1), .val (.int p2), .val (.int p3), .val (.int p4), .val (.int p5), .val (.int (0 : Int32)), .val (.ref x_2), .val w5, .val w10, .val w15, .val (.ref x_19), .val (.int (1 : Int32))] [(.ref x_19)]))
          obtain ⟨cq22, kq22, q22a, q22b, q22c⟩ := isOf hZ17 eh21 f19_1
          obtain ⟨_, _, ⟨T22, L22, k22, n22⟩, -, X22, ⟨Lc22, hQ22, l22, y22, z22⟩, st22⟩ := X21.virtualBack hx (y := (⟨"com/example/operatory/operatory/fhir/SearchValue$Alternative", "system", "()Ljava/util/Optional;"⟩ : MethodName)) (z := (⟨"com/example/operatory/operatory/fhir/SearchValue$Alternative", "system", "()Ljava/util/Optional;"⟩ : MethodName)) hown17 (mvT hZ17 (hw _ (List.mem_of_getElem? (i := 67) rfl))) (mvT hZ17 (hw _ (List.mem_of_getElem? (i := 68) rfl))) (notFace_of_selects (args := #[]) (mvT hZ17 (hw _ (List.mem_of_getElem? (i := 70) rfl)))) (mvT hZ17 (hw _ (List.mem_of_getElem? (i := 70) rfl))) (mvT hZ17 (hw _ (List.mem_of_getElem? (i := 69) rfl))) (by decide) (backOf (W := 0) (rmGg_system l Z a0 hw [] x_19 w5 T19.heap n0 (Nat.le_trans Z0 (Nat.le_trans (Nat.le_trans (Nat.le_trans (Nat.le_trans K2.1 K7.1) K12.1) K17.1) K19.1)) G1 O2 P5 eA SE XE FE F20 f19_7 hw5) hZ17 (hw _ (List.mem_of_getElem? (i := 71) rfl)) (hw _ (List.mem_of_getElem? (i := 28) rfl)) (by decide) (by decide)) q22a q22c (g := (mkF m 111 #[.val (.int p1), .val (.int p2), .val (.int p3), .val (.int p4), .val (.int p5), .val (.int (0 : Int32)), .val (.ref x_2), .val w5, .val w10, .val w15, .val (.ref x_19), .val (.int (1 : Int32))] [(.ref x_19)])) rfl (by rw [hml]; rfl) (Steps.refl _) (argsL := []) (rest := []) (lenOf pd_8 rfl) rfl (by show 2 * 0 + _ ≤ _; exact Nat.le_of_eq rfl) (hb hby at_111) (fun _ _ => ⟨rfl, eh21, (by decide : 17 + 1 ≤ _), (by decide : 45 + 1 ≤ _)⟩)
          dsimp only [Pt.U, Pt.locs, Pt.cells, Pt.slots] at X22 l22 y22 z22 st22 hQ22
          subst l22 y22 z22
          obtain ⟨x_22, rfl, Nq22, K22, f22_0, f22_1⟩ := hQ22
          have N22 := Fr.app N21 Nq22
          refine Ends.go st22 ?_
          show Ends _ _ _ _ (T22.setTop (mkF m 114 #[.val (.int p1), .val (.int p2), .val (.int p3), .val (.int p4), .val (.int p5), .val (.int (0 : Int32)), .val (.ref x_2), .val w5, .val w10, .val w15, .val (.ref x_19), .val (.int (1 : Int32))] [(.ref x_22)]))
          refine Ends.step (fun t k => XS.aconstNull X22.here hx rfl (hb hby at_114) k) ?_
          show Ends _ _ _ _ (T22.setTop (mkF m 115 #[.val (.int p1), .val (.int p2), .val (.int p3), .val (.int p4), .val (.int p5), .val (.int (0 : Int32)), .val (.ref x_2), .val w5, .val w10, .val w15, .val (.ref x_19), .val (.int (1 : Int32))] [.null, (.ref x_22)]))
          have F23 : Old Z n0 T22.heap := (F20.keep K22 all0)
          obtain ⟨cq24, kq24, q24a, q24b, q24c⟩ := isOf hZ17 rfl f22_0
          obtain ⟨_, _, ⟨T24, L24, k24, n24⟩, -, X24, ⟨Lc24, hQ24, l24, y24, z24⟩, st24⟩ := X22.virtualBack hx (y := (⟨"java/util/Optional", "orElse", "(Ljava/lang/Object;)Ljava/lang/Object;"⟩ : MethodName)) (z := (⟨"java/util/Optional", "orElse", "(Ljava/lang/Object;)Ljava/lang/Object;"⟩ : MethodName)) hown17 (mvT hZ17 (hw _ (List.mem_of_getElem? (i := 85) rfl))) (mvT hZ17 (hw _ (List.mem_of_getElem? (i := 86) rfl))) (notFace_of_selects (args := #[]) (mvT hZ17 (hw _ (List.mem_of_getElem? (i := 88) rfl)))) (mvT hZ17 (hw _ (List.mem_of_getElem? (i := 88) rfl))) (mvT hZ17 (hw _ (List.mem_of_getElem? (i := 87) rfl))) (by decide) (backOf (W := 0) (rmOpElG l Z a0 hw [] x_22 w5 T22.heap n0 (Nat.le_trans Z0 (Nat.le_trans (Nat.le_trans (Nat.le_trans (Nat.le_trans (Nat.le_trans K2.1 K7.1) K12.1) K17.1) K19.1) K22.1)) G1 O2 P5 eA SE XE FE F23 f22_1 hw5) hZ17 (hw _ (List.mem_of_getElem? (i := 89) rfl)) (hw _ (List.mem_of_getElem? (i := 74) rfl)) (by decide) (by decide)) q24a q24c (g := (mkF m 115 #[.val (.int p1), .val (.int p2), .val (.int p3), .val (.int p4), .val (.int p5), .val (.int (0 : Int32)), .val (.ref x_2), .val w5, .val w10, .val w15, .val (.ref x_19), .val (.int (1 : Int32))] [.null, (.ref x_22)])) rfl (by rw [hml]; rfl) (Steps.refl _) (argsL := [.null]) (rest := []) (lenOf pd_9 rfl) rfl (by show 2 * 0 + _ ≤ _; exact Nat.le_of_eq rfl) (hb hby at_115) (fun _ _ => ⟨rfl, rfl, (by decide : 18 + 0 ≤ _), (by decide : 46 + 0 ≤ _)⟩)
          dsimp only [Pt.U, Pt.locs, Pt.cells, Pt.slots] at X24 l24 y24 z24 st24 hQ24
          subst l24 y24 z24
          obtain ⟨rfl, Nq24, eh24⟩ := hQ24
          have N24 := Fr.app N22 Nq24
          refine Ends.go st24 ?_
          show Ends _ _ _ _ (T24.setTop (mkF m 118 #[.val (.int p1), .val (.int p2), .val (.int p3), .val (.int p4), .val (.int p5), .val (.int (0 : Int32)), .val (.ref x_2), .val w5, .val w10, .val w15, .val (.ref x_19), .val (.int (1 : Int32))] [w5]))
          refine Ends.step (fun t k => XS.aload X24.here hx rfl (hb hby at_118) rfl hw5 k) ?_
          show Ends _ _ _ _ (T24.setTop (mkF m 120 #[.val (.int p1), .val (.int p2), .val (.int p3), .val (.int p4), .val (.int p5), .val (.int (0 : Int32)), .val (.ref x_2), .val w5, .val w10, .val w15, .val (.ref x_19), .val (.int (1 : Int32))] [w5, w5]))
          refine Ends.step (fun t k => acmp X24 hx rfl (x := w5) (y := w5) hw5 hw5 (pc0 := 120) (pc' := 123) (same := true) rfl (hb hby at_120) rfl (decide_eq_true rfl) (by decide) (by decide) k) ?_
          show Ends _ _ _ _ (T24.setTop (mkF m 123 #[.val (.int p1), .val (.int p2), .val (.int p3), .val (.int p4), .val (.int p5), .val (.int (0 : Int32)), .val (.ref x_2), .val w5, .val w10, .val w15, .val (.ref x_19), .val (.int (1 : Int32))] []))
          refine Ends.step (fun t k => XS.iconst X24.here hx rfl (hb hby at_123) k) ?_
          show Ends _ _ _ _ (T24.setTop (mkF m 124 #[.val (.int p1), .val (.int p2), .val (.int p3), .val (.int p4), .val (.int p5), .val (.int (0 : Int32)), .val (.ref x_2), .val w5, .val w10, .val w15, .val (.ref x_19), .val (.int (1 : Int32))] [(.int (1 : Int32))]))
          refine Ends.step (fun t k => XS.goto X24.here hx rfl (pc0 := 124) (pc' := 128) rfl (hb hby at_124) (by decide) (by decide) k) ?_
          show Ends _ _ _ _ (T24.setTop (mkF m 128 #[.val (.int p1), .val (.int p2), .val (.int p3), .val (.int p4), .val (.int p5), .val (.int (0 : Int32)), .val (.ref x_2), .val w5, .val w10, .val w15, .val (.ref x_19), .val (.int (1 : Int32))] [(.int (1 : Int32))]))
          refine Ends.step (fun t k => XS.istore X24.here hx rfl (hb hby at_128) rfl (l' := #[.val (.int p1), .val (.int p2), .val (.int p3), .val (.int p4), .val (.int p5), .val (.int (0 : Int32)), .val (.ref x_2), .val w5, .val w10, .val w15, .val (.ref x_19), .val (.int (1 : Int32))]) rfl k) ?_
          show Ends _ _ _ _ (T24.setTop (mkF m 130 #[.val (.int p1), .val (.int p2), .val (.int p3), .val (.int p4), .val (.int p5), .val (.int (0 : Int32)), .val (.ref x_2), .val w5, .val w10, .val w15, .val (.ref x_19), .val (.int (1 : Int32))] []))
          refine Ends.step (fun t k => XS.iload X24.here hx rfl (hb hby at_130) rfl k) ?_
          show Ends _ _ _ _ (T24.setTop (mkF m 132 #[.val (.int p1), .val (.int p2), .val (.int p3), .val (.int p4), .val (.int p5), .val (.int (0 : Int32)), .val (.ref x_2), .val w5, .val w10, .val w15, .val (.ref x_19), .val (.int (1 : Int32))] [(.int (1 : Int32))]))
          refine Ends.step (fun t k => XS.ifNo X24.here hx rfl (hb hby at_132) rfl ((if0 _ _).trans (feq (by decide : ¬ ((1 : Int32) = (0 : Int32)))).1) k) ?_
          show Ends _ _ _ _ (T24.setTop (mkF m 135 #[.val (.int p1), .val (.int p2), .val (.int p3), .val (.int p4), .val (.int p5), .val (.int (0 : Int32)), .val (.ref x_2), .val w5, .val w10, .val w15, .val (.ref x_19), .val (.int (1 : Int32))] []))
          refine Ends.step (fun t k => XS.aload X24.here hx rfl (hb hby at_135) rfl rfl k) ?_
          show Ends _ _ _ _ (T24.setTop (mkF m 137 #[.val (.int p1), .val (.int p2), .val (.int p3), .val (.int p4), .val (.int p5), .val (.int (0 : Int32)), .val (.ref x_2), .val w5, .val w10, .val w15, .val (.ref x_19), .val (.int (1 : Int32))] [(.ref x_19)]))
          have F25 : Exa Z T22.heap x_19 "com/example/operatory/operatory/fhir/SearchValue$Alternative" := (f19_1.keep K22)
          have F26 : Fld Z T22.heap x_19 "com/example/operatory/operatory/fhir/SearchValue$Alternative" "noSystem" "Z" (.int (0 : Int32)) := (f19_8.keep K22 nin0)
          obtain ⟨cq27, kq27, q27a, q27b, q27c⟩ := isOf hZ17 eh24 F25
          obtain ⟨_, _, ⟨T27, L27, k27, n27⟩, -, X27, ⟨Lc27, hQ27, l27, y27, z27⟩, st27⟩ := X24.virtualBack hx (y := (⟨"com/example/operatory/operatory/fhir/SearchValue$Alternative", "noSystem", "()Z"⟩ : MethodName)) (z := (⟨"com/example/operatory/operatory/fhir/SearchValue$Alternative", "noSystem", "()Z"⟩ : MethodName)) hown17 (mvT hZ17 (hw _ (List.mem_of_getElem? (i := 90) rfl))) (mvT hZ17 (hw _ (List.mem_of_getElem? (i := 91) rfl))) (notFace_of_selects (args := #[]) (mvT hZ17 (hw _ (List.mem_of_getElem? (i := 93) rfl)))) (mvT hZ17 (hw _ (List.mem_of_getElem? (i := 93) rfl))) (mvT hZ17 (hw _ (List.mem_of_getElem? (i := 92) rfl))) (by decide) (backOf (W := 0) (rmNs0 l Z a0 hw [] x_19 T22.heap n0 (Nat.le_trans Z0 (Nat.le_trans (Nat.le_trans (Nat.le_trans (Nat.le_trans (Nat.le_trans K2.1 K7.1) K12.1) K17.1) K19.1) K22.1)) G1 O2 P5 eA SE XE FE F23 F26) hZ17 (hw _ (List.mem_of_getElem? (i := 94) rfl)) (hw _ (List.mem_of_getElem? (i := 28) rfl)) (by decide) (by decide)) q27a q27c (g := (mkF m 137 #[.val (.int p1), .val (.int p2), .val (.int p3), .val (.int p4), .val (.int p5), .val (.int (0 : Int32)), .val (.ref x_2), .val w5, .val w10, .val w15, .val (.ref x_19), .val (.int (1 : Int32))] [(.ref x_19)])) rfl (by rw [hml]; rfl) (Steps.refl _) (argsL := []) (rest := []) (lenOf pd_10 rfl) rfl (by show 2 * 0 + _ ≤ _; exact Nat.le_of_eq rfl) (hb hby at_137) (fun _ _ => ⟨rfl, eh24, (by decide : 18 + 0 ≤ _), (by decide : 46 + 0 ≤ _)⟩)
          dsimp only [Pt.U, Pt.locs, Pt.cells, Pt.slots] at X27 l27 y27 z27 st27 hQ27
          subst l27 y27 z27
          obtain ⟨rfl, Nq27, eh27⟩ := hQ27
          have N27 := Fr.app N24 Nq27
          refine Ends.go st27 ?_
          show Ends _ _ _ _ (T27.setTop (mkF m 140 #[.val (.int p1), .val (.int p2), .val (.int p3), .val (.int p4), .val (.int p5), .val (.int (0 : Int32)), .val (.ref x_2), .val w5, .val w10, .val w15, .val (.ref x_19), .val (.int (1 : Int32))] [(.int (0 : Int32))]))
          refine Ends.step (fun t k => XS.iload X27.here hx rfl (hb hby at_140) rfl k) ?_
          show Ends _ _ _ _ (T27.setTop (mkF m 142 #[.val (.int p1), .val (.int p2), .val (.int p3), .val (.int p4), .val (.int p5), .val (.int (0 : Int32)), .val (.ref x_2), .val w5, .val w10, .val w15, .val (.ref x_19), .val (.int (1 : Int32))] [(.int (0 : Int32)), (.int (0 : Int32))]))
          refine Ends.step (fun t k => XS.icmpNo X27.here hx rfl (hb hby at_142) rfl (teq (by decide : ((0 : Int32) = (0 : Int32)))).2 k) ?_
          show Ends _ _ _ _ (T27.setTop (mkF m 145 #[.val (.int p1), .val (.int p2), .val (.int p3), .val (.int p4), .val (.int p5), .val (.int (0 : Int32)), .val (.ref x_2), .val w5, .val w10, .val w15, .val (.ref x_19), .val (.int (1 : Int32))] []))
          refine Ends.step (fun t k => XS.iconst X27.here hx rfl (hb hby at_145) k) ?_
          show Ends _ _ _ _ (T27.setTop (mkF m 146 #[.val (.int p1), .val (.int p2), .val (.int p3), .val (.int p4), .val (.int p5), .val (.int (0 : Int32)), .val (.ref x_2), .val w5, .val w10, .val w15, .val (.ref x_19), .val (.int (1 : Int32))] [(.int (1 : Int32))]))
          refine Ends.step (fun t k => XS.goto X27.here hx rfl (pc0 := 146) (pc' := 150) rfl (hb hby at_146) (by decide) (by decide) k) ?_
          show Ends _ _ _ _ (T27.setTop (mkF m 150 #[.val (.int p1), .val (.int p2), .val (.int p3), .val (.int p4), .val (.int p5), .val (.int (0 : Int32)), .val (.ref x_2), .val w5, .val w10, .val w15, .val (.ref x_19), .val (.int (1 : Int32))] [(.int (1 : Int32))]))
          refine Ends.step (fun t k => XS.istore X27.here hx rfl (hb hby at_150) rfl (l' := #[.val (.int p1), .val (.int p2), .val (.int p3), .val (.int p4), .val (.int p5), .val (.int (0 : Int32)), .val (.ref x_2), .val w5, .val w10, .val w15, .val (.ref x_19), .val (.int (1 : Int32))]) rfl k) ?_
          show Ends _ _ _ _ (T27.setTop (mkF m 152 #[.val (.int p1), .val (.int p2), .val (.int p3), .val (.int p4), .val (.int p5), .val (.int (0 : Int32)), .val (.ref x_2), .val w5, .val w10, .val w15, .val (.ref x_19), .val (.int (1 : Int32))] []))
          refine Ends.step (fun t k => XS.iload X27.here hx rfl (hb hby at_152) rfl k) ?_
          show Ends _ _ _ _ (T27.setTop (mkF m 154 #[.val (.int p1), .val (.int p2), .val (.int p3), .val (.int p4), .val (.int p5), .val (.int (0 : Int32)), .val (.ref x_2), .val w5, .val w10, .val w15, .val (.ref x_19), .val (.int (1 : Int32))] [(.int (1 : Int32))]))
          refine Ends.step (fun t k => XS.ifNo X27.here hx rfl (hb hby at_154) rfl ((if0 _ _).trans (feq (by decide : ¬ ((1 : Int32) = (0 : Int32)))).1) k) ?_
          show Ends _ _ _ _ (T27.setTop (mkF m 157 #[.val (.int p1), .val (.int p2), .val (.int p3), .val (.int p4), .val (.int p5), .val (.int (0 : Int32)), .val (.ref x_2), .val w5, .val w10, .val w15, .val (.ref x_19), .val (.int (1 : Int32))] []))
          refine Ends.step (fun t k => XS.aload X27.here hx rfl (hb hby at_157) rfl rfl k) ?_
          show Ends _ _ _ _ (T27.setTop (mkF m 159 #[.val (.int p1), .val (.int p2), .val (.int p3), .val (.int p4), .val (.int p5), .val (.int (0 : Int32)), .val (.ref x_2), .val w5, .val w10, .val w15, .val (.ref x_19), .val (.int (1 : Int32))] [(.ref x_19)]))
          have F28 : Fld Z T22.heap x_19 "com/example/operatory/operatory/fhir/SearchValue$Alternative" "code" "Ljava/lang/String;" w10 := (f19_9.keep K22 nin0)
          obtain ⟨cq29, kq29, q29a, q29b, q29c⟩ := isOf hZ17 eh27 F25
          obtain ⟨_, _, ⟨T29, L29, k29, n29⟩, -, X29, ⟨Lc29, hQ29, l29, y29, z29⟩, st29⟩ := X27.virtualBack hx (y := (⟨"com/example/operatory/operatory/fhir/SearchValue$Alternative", "code", "()Ljava/util/Optional;"⟩ : MethodName)) (z := (⟨"com/example/operatory/operatory/fhir/SearchValue$Alternative", "code", "()Ljava/util/Optional;"⟩ : MethodName)) hown17 (mvT hZ17 (hw _ (List.mem_of_getElem? (i := 95) rfl))) (mvT hZ17 (hw _ (List.mem_of_getElem? (i := 96) rfl))) (notFace_of_selects (args := #[]) (mvT hZ17 (hw _ (List.mem_of_getElem? (i := 98) rfl)))) (mvT hZ17 (hw _ (List.mem_of_getElem? (i := 98) rfl))) (mvT hZ17 (hw _ (List.mem_of_getElem? (i := 97) rfl))) (by decide) (backOf (W := 0) (rmGg_code l Z a0 hw [] x_19 w10 T22.heap n0 (Nat.le_trans Z0 (Nat.le_trans (Nat.le_trans (Nat.le_trans (Nat.le_trans (Nat.le_trans K2.1 K7.1) K12.1) K17.1) K19.1) K22.1)) G1 O2 P5 eA SE XE FE F23 F28 hw10) hZ17 (hw _ (List.mem_of_getElem? (i := 99) rfl)) (hw _ (List.mem_of_getElem? (i := 28) rfl)) (by decide) (by decide)) q29a q29c (g := (mkF m 159 #[.val (.int p1), .val (.int p2), .val (.int p3), .val (.int p4), .val (.int p5), .val (.int (0 : Int32)), .val (.ref x_2), .val w5, .val w10, .val w15, .val (.ref x_19), .val (.int (1 : Int32))] [(.ref x_19)])) rfl (by rw [hml]; rfl) (Steps.refl _) (argsL := []) (rest := []) (lenOf pd_8 rfl) rfl (by show 2 * 0 + _ ≤ _; exact Nat.le_of_eq rfl) (hb hby at_159) (fun _ _ => ⟨rfl, eh27, (by decide : 18 + 1 ≤ _), (by decide : 46 + 1 ≤ _)⟩)
          dsimp only [Pt.U, Pt.locs, Pt.cells, Pt.slots] at X29 l29 y29 z29 st29 hQ29
          subst l29 y29 z29
          obtain ⟨x_29, rfl, Nq29, K29, f29_0, f29_1⟩ := hQ29
          have N29 := Fr.app N27 Nq29
          refine Ends.go st29 ?_
          show Ends _ _ _ _ (T29.setTop (mkF m 162 #[.val (.int p1), .val (.int p2), .val (.int p3), .val (.int p4), .val (.int p5), .val (.int (0 : Int32)), .val (.ref x_2), .val w5, .val w10, .val w15, .val (.ref x_19), .val (.int (1 : Int32))] [(.ref x_29)]))
          refine Ends.step (fun t k => XS.aconstNull X29.here hx rfl (hb hby at_162) k) ?_
          show Ends _ _ _ _ (T29.setTop (mkF m 163 #[.val (.int p1), .val (.int p2), .val (.int p3), .val (.int p4), .val (.int p5), .val (.int (0 : Int32)), .val (.ref x_2), .val w5, .val w10, .val w15, .val (.ref x_19), .val (.int (1 : Int32))] [.null, (.ref x_29)]))
          have F30 : Old Z n0 T29.heap := (F23.keep K29 all0)
          obtain ⟨cq31, kq31, q31a, q31b, q31c⟩ := isOf hZ17 rfl f29_0
          obtain ⟨_, _, ⟨T31, L31, k31, n31⟩, -, X31, ⟨Lc31, hQ31, l31, y31, z31⟩, st31⟩ := X29.virtualBack hx (y := (⟨"java/util/Optional", "orElse", "(Ljava/lang/Object;)Ljava/lang/Object;"⟩ : MethodName)) (z := (⟨"java/util/Optional", "orElse", "(Ljava/lang/Object;)Ljava/lang/Object;"⟩ : MethodName)) hown17 (mvT hZ17 (hw _ (List.mem_of_getElem? (i := 85) rfl))) (mvT hZ17 (hw _ (List.mem_of_getElem? (i := 86) rfl))) (notFace_of_selects (args := #[]) (mvT hZ17 (hw _ (List.mem_of_getElem? (i := 88) rfl)))) (mvT hZ17 (hw _ (List.mem_of_getElem? (i := 88) rfl))) (mvT hZ17 (hw _ (List.mem_of_getElem? (i := 87) rfl))) (by decide) (backOf (W := 0) (rmOpElG l Z a0 hw [] x_29 w10 T29.heap n0 (Nat.le_trans Z0 (Nat.le_trans (Nat.le_trans (Nat.le_trans (Nat.le_trans (Nat.le_trans (Nat.le_trans K2.1 K7.1) K12.1) K17.1) K19.1) K22.1) K29.1)) G1 O2 P5 eA SE XE FE F30 f29_1 hw10) hZ17 (hw _ (List.mem_of_getElem? (i := 89) rfl)) (hw _ (List.mem_of_getElem? (i := 74) rfl)) (by decide) (by decide)) q31a q31c (g := (mkF m 163 #[.val (.int p1), .val (.int p2), .val (.int p3), .val (.int p4), .val (.int p5), .val (.int (0 : Int32)), .val (.ref x_2), .val w5, .val w10, .val w15, .val (.ref x_19), .val (.int (1 : Int32))] [.null, (.ref x_29)])) rfl (by rw [hml]; rfl) (Steps.refl _) (argsL := [.null]) (rest := []) (lenOf pd_9 rfl) rfl (by show 2 * 0 + _ ≤ _; exact Nat.le_of_eq rfl) (hb hby at_163) (fun _ _ => ⟨rfl, rfl, (by decide : 19 + 0 ≤ _), (by decide : 47 + 0 ≤ _)⟩)
          dsimp only [Pt.U, Pt.locs, Pt.cells, Pt.slots] at X31 l31 y31 z31 st31 hQ31
          subst l31 y31 z31
          obtain ⟨rfl, Nq31, eh31⟩ := hQ31
          have N31 := Fr.app N29 Nq31
          refine Ends.go st31 ?_
          show Ends _ _ _ _ (T31.setTop (mkF m 166 #[.val (.int p1), .val (.int p2), .val (.int p3), .val (.int p4), .val (.int p5), .val (.int (0 : Int32)), .val (.ref x_2), .val w5, .val w10, .val w15, .val (.ref x_19), .val (.int (1 : Int32))] [w10]))
          refine Ends.step (fun t k => XS.aload X31.here hx rfl (hb hby at_166) rfl hw10 k) ?_
          show Ends _ _ _ _ (T31.setTop (mkF m 168 #[.val (.int p1), .val (.int p2), .val (.int p3), .val (.int p4), .val (.int p5), .val (.int (0 : Int32)), .val (.ref x_2), .val w5, .val w10, .val w15, .val (.ref x_19), .val (.int (1 : Int32))] [w10, w10]))
          refine Ends.step (fun t k => acmp X31 hx rfl (x := w10) (y := w10) hw10 hw10 (pc0 := 168) (pc' := 171) (same := true) rfl (hb hby at_168) rfl (decide_eq_true rfl) (by decide) (by decide) k) ?_
          show Ends _ _ _ _ (T31.setTop (mkF m 171 #[.val (.int p1), .val (.int p2), .val (.int p3), .val (.int p4), .val (.int p5), .val (.int (0 : Int32)), .val (.ref x_2), .val w5, .val w10, .val w15, .val (.ref x_19), .val (.int (1 : Int32))] []))
          refine Ends.step (fun t k => XS.iconst X31.here hx rfl (hb hby at_171) k) ?_
          show Ends _ _ _ _ (T31.setTop (mkF m 172 #[.val (.int p1), .val (.int p2), .val (.int p3), .val (.int p4), .val (.int p5), .val (.int (0 : Int32)), .val (.ref x_2), .val w5, .val w10, .val w15, .val (.ref x_19), .val (.int (1 : Int32))] [(.int (1 : Int32))]))
          refine Ends.step (fun t k => XS.goto X31.here hx rfl (pc0 := 172) (pc' := 176) rfl (hb hby at_172) (by decide) (by decide) k) ?_
          show Ends _ _ _ _ (T31.setTop (mkF m 176 #[.val (.int p1), .val (.int p2), .val (.int p3), .val (.int p4), .val (.int p5), .val (.int (0 : Int32)), .val (.ref x_2), .val w5, .val w10, .val w15, .val (.ref x_19), .val (.int (1 : Int32))] [(.int (1 : Int32))]))
          refine Ends.step (fun t k => XS.istore X31.here hx rfl (hb hby at_176) rfl (l' := #[.val (.int p1), .val (.int p2), .val (.int p3), .val (.int p4), .val (.int p5), .val (.int (0 : Int32)), .val (.ref x_2), .val w5, .val w10, .val w15, .val (.ref x_19), .val (.int (1 : Int32))]) rfl k) ?_
          show Ends _ _ _ _ (T31.setTop (mkF m 178 #[.val (.int p1), .val (.int p2), .val (.int p3), .val (.int p4), .val (.int p5), .val (.int (0 : Int32)), .val (.ref x_2), .val w5, .val w10, .val w15, .val (.ref x_19), .val (.int (1 : Int32))] []))
          refine Ends.step (fun t k => XS.iload X31.here hx rfl (hb hby at_178) rfl k) ?_
          show Ends _ _ _ _ (T31.setTop (mkF m 180 #[.val (.int p1), .val (.int p2), .val (.int p3), .val (.int p4), .val (.int p5), .val (.int (0 : Int32)), .val (.ref x_2), .val w5, .val w10, .val w15, .val (.ref x_19), .val (.int (1 : Int32))] [(.int (1 : Int32))]))
          refine Ends.step (fun t k => XS.ifNo X31.here hx rfl (hb hby at_180) rfl ((if0 _ _).trans (feq (by decide : ¬ ((1 : Int32) = (0 : Int32)))).1) k) ?_
          show Ends _ _ _ _ (T31.setTop (mkF m 183 #[.val (.int p1), .val (.int p2), .val (.int p3), .val (.int p4), .val (.int p5), .val (.int (0 : Int32)), .val (.ref x_2), .val w5, .val w10, .val w15, .val (.ref x_19), .val (.int (1 : Int32))] []))
          refine Ends.step (fun t k => XS.aload X31.here hx rfl (hb hby at_183) rfl rfl k) ?_
          show Ends _ _ _ _ (T31.setTop (mkF m 185 #[.val (.int p1), .val (.int p2), .val (.int p3), .val (.int p4), .val (.int p5), .val (.int (0 : Int32)), .val (.ref x_2), .val w5, .val w10, .val w15, .val (.ref x_19), .val (.int (1 : Int32))] [(.ref x_19)]))
          have F32 : Exa Z T29.heap x_19 "com/example/operatory/operatory/fhir/SearchValue$Alternative" := (F25.keep K29)
          have F33 : Fld Z T29.heap x_19 "com/example/operatory/operatory/fhir/SearchValue$Alternative" "value" "Ljava/lang/String;" w15 := ((f19_10.keep K22 nin0).keep K29 nin0)
          obtain ⟨cq34, kq34, q34a, q34b, q34c⟩ := isOf hZ17 eh31 F32
          obtain ⟨_, _, ⟨T34, L34, k34, n34⟩, -, X34, ⟨Lc34, hQ34, l34, y34, z34⟩, st34⟩ := X31.virtualBack hx (y := (⟨"com/example/operatory/operatory/fhir/SearchValue$Alternative", "value", "()Ljava/util/Optional;"⟩ : MethodName)) (z := (⟨"com/example/operatory/operatory/fhir/SearchValue$Alternative", "value", "()Ljava/util/Optional;"⟩ : MethodName)) hown17 (mvT hZ17 (hw _ (List.mem_of_getElem? (i := 100) rfl))) (mvT hZ17 (hw _ (List.mem_of_getElem? (i := 101) rfl))) (notFace_of_selects (args := #[]) (mvT hZ17 (hw _ (List.mem_of_getElem? (i := 103) rfl)))) (mvT hZ17 (hw _ (List.mem_of_getElem? (i := 103) rfl))) (mvT hZ17 (hw _ (List.mem_of_getElem? (i := 102) rfl))) (by decide) (backOf (W := 0) (rmGg_value l Z a0 hw [] x_19 w15 T29.heap n0 (Nat.le_trans Z0 (Nat.le_trans (Nat.le_trans (Nat.le_trans (Nat.le_trans (Nat.le_trans (Nat.le_trans K2.1 K7.1) K12.1) K17.1) K19.1) K22.1) K29.1)) G1 O2 P5 eA SE XE FE F30 F33 hw15) hZ17 (hw _ (List.mem_of_getElem? (i := 104) rfl)) (hw _ (List.mem_of_getElem? (i := 28) rfl)) (by decide) (by decide)) q34a q34c (g := (mkF m 185 #[.val (.int p1), .val (.int p2), .val (.int p3), .val (.int p4), .val (.int p5), .val (.int (0 : Int32)), .val (.ref x_2), .val w5, .val w10, .val w15, .val (.ref x_19), .val (.int (1 : Int32))] [(.ref x_19)])) rfl (by rw [hml]; rfl) (Steps.refl _) (argsL := []) (rest := []) (lenOf pd_8 rfl) rfl (by show 2 * 0 + _ ≤ _; exact Nat.le_of_eq rfl) (hb hby at_185) (fun _ _ => ⟨rfl, eh31, (by decide : 19 + 1 ≤ _), (by decide : 47 + 1 ≤ _)⟩)
          dsimp only [Pt.U, Pt.locs, Pt.cells, Pt.slots] at X34 l34 y34 z34 st34 hQ34
          subst l34 y34 z34
          obtain ⟨x_34, rfl, Nq34, K34, f34_0, f34_1⟩ := hQ34
          have N34 := Fr.app N31 Nq34
          refine Ends.go st34 ?_
          show Ends _ _ _ _ (T34.setTop (mkF m 188 #[.val (.int p1), .val (.int p2), .val (.int p3), .val (.int p4), .val (.int p5), .val (.int (0 : Int32)), .val (.ref x_2), .val w5, .val w10, .val w15, .val (.ref x_19), .val (.int (1 : Int32))] [(.ref x_34)]))
          refine Ends.step (fun t k => XS.aconstNull X34.here hx rfl (hb hby at_188) k) ?_
          show Ends _ _ _ _ (T34.setTop (mkF m 189 #[.val (.int p1), .val (.int p2), .val (.int p3), .val (.int p4), .val (.int p5), .val (.int (0 : Int32)), .val (.ref x_2), .val w5, .val w10, .val w15, .val (.ref x_19), .val (.int (1 : Int32))] [.null, (.ref x_34)]))
          have F35 : Old Z n0 T34.heap := (F30.keep K34 all0)
          obtain ⟨cq36, kq36, q36a, q36b, q36c⟩ := isOf hZ17 rfl f34_0
          obtain ⟨_, _, ⟨T36, L36, k36, n36⟩, -, X36, ⟨Lc36, hQ36, l36, y36, z36⟩, st36⟩ := X34.virtualBack hx (y := (⟨"java/util/Optional", "orElse", "(Ljava/lang/Object;)Ljava/lang/Object;"⟩ : MethodName)) (z := (⟨"java/util/Optional", "orElse", "(Ljava/lang/Object;)Ljava/lang/Object;"⟩ : MethodName)) hown17 (mvT hZ17 (hw _ (List.mem_of_getElem? (i := 85) rfl))) (mvT hZ17 (hw _ (List.mem_of_getElem? (i := 86) rfl))) (notFace_of_selects (args := #[]) (mvT hZ17 (hw _ (List.mem_of_getElem? (i := 88) rfl)))) (mvT hZ17 (hw _ (List.mem_of_getElem? (i := 88) rfl))) (mvT hZ17 (hw _ (List.mem_of_getElem? (i := 87) rfl))) (by decide) (backOf (W := 0) (rmOpElG l Z a0 hw [] x_34 w15 T34.heap n0 (Nat.le_trans Z0 (Nat.le_trans (Nat.le_trans (Nat.le_trans (Nat.le_trans (Nat.le_trans (Nat.le_trans (Nat.le_trans K2.1 K7.1) K12.1) K17.1) K19.1) K22.1) K29.1) K34.1)) G1 O2 P5 eA SE XE FE F35 f34_1 hw15) hZ17 (hw _ (List.mem_of_getElem? (i := 89) rfl)) (hw _ (List.mem_of_getElem? (i := 74) rfl)) (by decide) (by decide)) q36a q36c (g := (mkF m 189 #[.val (.int p1), .val (.int p2), .val (.int p3), .val (.int p4), .val (.int p5), .val (.int (0 : Int32)), .val (.ref x_2), .val w5, .val w10, .val w15, .val (.ref x_19), .val (.int (1 : Int32))] [.null, (.ref x_34)])) rfl (by rw [hml]; rfl) (Steps.refl _) (argsL := [.null]) (rest := []) (lenOf pd_9 rfl) rfl (by show 2 * 0 + _ ≤ _; exact Nat.le_of_eq rfl) (hb hby at_189) (fun _ _ => ⟨rfl, rfl, (by decide : 20 + 0 ≤ _), (by decide : 48 + 0 ≤ _)⟩)
          dsimp only [Pt.U, Pt.locs, Pt.cells, Pt.slots] at X36 l36 y36 z36 st36 hQ36
          subst l36 y36 z36
          obtain ⟨rfl, Nq36, eh36⟩ := hQ36
          have N36 := Fr.app N34 Nq36
          refine Ends.go st36 ?_
          show Ends _ _ _ _ (T36.setTop (mkF m 192 #[.val (.int p1), .val (.int p2), .val (.int p3), .val (.int p4), .val (.int p5), .val (.int (0 : Int32)), .val (.ref x_2), .val w5, .val w10, .val w15, .val (.ref x_19), .val (.int (1 : Int32))] [w15]))
          refine Ends.step (fun t k => XS.aload X36.here hx rfl (hb hby at_192) rfl hw15 k) ?_
          show Ends _ _ _ _ (T36.setTop (mkF m 194 #[.val (.int p1), .val (.int p2), .val (.int p3), .val (.int p4), .val (.int p5), .val (.int (0 : Int32)), .val (.ref x_2), .val w5, .val w10, .val w15, .val (.ref x_19), .val (.int (1 : Int32))] [w15, w15]))
          refine Ends.step (fun t k => acmp X36 hx rfl (x := w15) (y := w15) hw15 hw15 (pc0 := 194) (pc' := 197) (same := true) rfl (hb hby at_194) rfl (decide_eq_true rfl) (by decide) (by decide) k) ?_
          show Ends _ _ _ _ (T36.setTop (mkF m 197 #[.val (.int p1), .val (.int p2), .val (.int p3), .val (.int p4), .val (.int p5), .val (.int (0 : Int32)), .val (.ref x_2), .val w5, .val w10, .val w15, .val (.ref x_19), .val (.int (1 : Int32))] []))
          refine Ends.step (fun t k => XS.iconst X36.here hx rfl (hb hby at_197) k) ?_
          show Ends _ _ _ _ (T36.setTop (mkF m 198 #[.val (.int p1), .val (.int p2), .val (.int p3), .val (.int p4), .val (.int p5), .val (.int (0 : Int32)), .val (.ref x_2), .val w5, .val w10, .val w15, .val (.ref x_19), .val (.int (1 : Int32))] [(.int (1 : Int32))]))
          refine Ends.step (fun t k => XS.goto X36.here hx rfl (pc0 := 198) (pc' := 202) rfl (hb hby at_198) (by decide) (by decide) k) ?_
          show Ends _ _ _ _ (T36.setTop (mkF m 202 #[.val (.int p1), .val (.int p2), .val (.int p3), .val (.int p4), .val (.int p5), .val (.int (0 : Int32)), .val (.ref x_2), .val w5, .val w10, .val w15, .val (.ref x_19), .val (.int (1 : Int32))] [(.int (1 : Int32))]))
          refine Ends.step (fun t k => XS.istore X36.here hx rfl (hb hby at_202) rfl (l' := #[.val (.int p1), .val (.int p2), .val (.int p3), .val (.int p4), .val (.int p5), .val (.int (0 : Int32)), .val (.ref x_2), .val w5, .val w10, .val w15, .val (.ref x_19), .val (.int (1 : Int32))]) rfl k) ?_
          show Ends _ _ _ _ (T36.setTop (mkF m 204 #[.val (.int p1), .val (.int p2), .val (.int p3), .val (.int p4), .val (.int p5), .val (.int (0 : Int32)), .val (.ref x_2), .val w5, .val w10, .val w15, .val (.ref x_19), .val (.int (1 : Int32))] []))
          refine Ends.step (fun t k => XS.iload X36.here hx rfl (hb hby at_204) rfl k) ?_
          show Ends _ _ _ _ (T36.setTop (mkF m 206 #[.val (.int p1), .val (.int p2), .val (.int p3), .val (.int p4), .val (.int p5), .val (.int (0 : Int32)), .val (.ref x_2), .val w5, .val w10, .val w15, .val (.ref x_19), .val (.int (1 : Int32))] [(.int (1 : Int32))]))
          refine Ends.step (fun t k => XS.ifNo X36.here hx rfl (hb hby at_206) rfl ((if0 _ _).trans (feq (by decide : ¬ ((1 : Int32) = (0 : Int32)))).1) k) ?_
          show Ends _ _ _ _ (T36.setTop (mkF m 209 #[.val (.int p1), .val (.int p2), .val (.int p3), .val (.int p4), .val (.int p5), .val (.int (0 : Int32)), .val (.ref x_2), .val w5, .val w10, .val w15, .val (.ref x_19), .val (.int (1 : Int32))] []))
          refine Ends.step (fun t k => XS.aload X36.here hx rfl (hb hby at_209) rfl rfl k) ?_
          show Ends _ _ _ _ (T36.setTop (mkF m 211 #[.val (.int p1), .val (.int p2), .val (.int p3), .val (.int p4), .val (.int p5), .val (.int (0 : Int32)), .val (.ref x_2), .val w5, .val w10, .val w15, .val (.ref x_19), .val (.int (1 : Int32))] [(.ref x_19)]))
          have F37 : Exa Z T34.heap x_19 "com/example/operatory/operatory/fhir/SearchValue$Alternative" := (F32.keep K34)
          have F38 : Fld Z T34.heap x_19 "com/example/operatory/operatory/fhir/SearchValue$Alternative" "prefix" "Lcom/example/operatory/operatory/fhir/SearchValue$Prefix;" .null := (((f19_3.keep K22 nin0).keep K29 nin0).keep K34 nin0)
          obtain ⟨cq39, kq39, q39a, q39b, q39c⟩ := isOf hZ17 eh36 F37
          obtain ⟨_, _, ⟨T39, L39, k39, n39⟩, -, X39, ⟨Lc39, hQ39, l39, y39, z39⟩, st39⟩ := X36.virtualBack hx (y := (⟨"com/example/operatory/operatory/fhir/SearchValue$Alternative", "prefix", "()Ljava/util/Optional;"⟩ : MethodName)) (z := (⟨"com/example/operatory/operatory/fhir/SearchValue$Alternative", "prefix", "()Ljava/util/Optional;"⟩ : MethodName)) hown17 (mvT hZ17 (hw _ (List.mem_of_getElem? (i := 105) rfl))) (mvT hZ17 (hw _ (List.mem_of_getElem? (i := 106) rfl))) (notFace_of_selects (args := #[]) (mvT hZ17 (hw _ (List.mem_of_getElem? (i := 108) rfl)))) (mvT hZ17 (hw _ (List.mem_of_getElem? (i := 108) rfl))) (mvT hZ17 (hw _ (List.mem_of_getElem? (i := 107) rfl))) (by decide) (backOf (W := 0) (rmGn_prefix l Z a0 hw [] x_19 T34.heap n0 (Nat.le_trans Z0 (Nat.le_trans (Nat.le_trans (Nat.le_trans (Nat.le_trans (Nat.le_trans (Nat.le_trans (Nat.le_trans K2.1 K7.1) K12.1) K17.1) K19.1) K22.1) K29.1) K34.1)) G1 O2 P5 eA SE XE FE F35 F38) hZ17 (hw _ (List.mem_of_getElem? (i := 109) rfl)) (hw _ (List.mem_of_getElem? (i := 28) rfl)) (by decide) (by decide)) q39a q39c (g := (mkF m 211 #[.val (.int p1), .val (.int p2), .val (.int p3), .val (.int p4), .val (.int p5), .val (.int (0 : Int32)), .val (.ref x_2), .val w5, .val w10, .val w15, .val (.ref x_19), .val (.int (1 : Int32))] [(.ref x_19)])) rfl (by rw [hml]; rfl) (Steps.refl _) (argsL := []) (rest := []) (lenOf pd_8 rfl) rfl (by show 2 * 0 + _ ≤ _; exact Nat.le_of_eq rfl) (hb hby at_211) (fun _ _ => ⟨rfl, eh36, (by decide : 20 + 0 ≤ _), (by decide : 48 + 0 ≤ _)⟩)
          dsimp only [Pt.U, Pt.locs, Pt.cells, Pt.slots] at X39 l39 y39 z39 st39 hQ39
          subst l39 y39 z39
          obtain ⟨rfl, Nq39, eh39⟩ := hQ39
          have N39 := Fr.app N36 Nq39
          refine Ends.go st39 ?_
          show Ends _ _ _ _ (T39.setTop (mkF m 214 #[.val (.int p1), .val (.int p2), .val (.int p3), .val (.int p4), .val (.int p5), .val (.int (0 : Int32)), .val (.ref x_2), .val w5, .val w10, .val w15, .val (.ref x_19), .val (.int (1 : Int32))] [(.ref eA)]))
          refine Ends.step (fun t k => XS.aconstNull X39.here hx rfl (hb hby at_214) k) ?_
          show Ends _ _ _ _ (T39.setTop (mkF m 215 #[.val (.int p1), .val (.int p2), .val (.int p3), .val (.int p4), .val (.int p5), .val (.int (0 : Int32)), .val (.ref x_2), .val w5, .val w10, .val w15, .val (.ref x_19), .val (.int (1 : Int32))] [.null, (.ref eA)]))
          have F40 : Exa Z T34.heap eA "java/util/Optional" := (((((((((XE.ext X00.2).keep K2).keep K7).keep K12).keep K17).keep K19).keep K22).keep K29).keep K34)
          have F41 : Fld Z T34.heap eA "java/util/Optional" "value" "Ljava/lang/Object;" .null := (((((((((FE.ext X00.2).keep K2 nin0).keep K7 nin0).keep K12 nin0).keep K17 nin0).keep K19 nin0).keep K22 nin0).keep K29 nin0).keep K34 nin0)
          obtain ⟨cq42, kq42, q42a, q42b, q42c⟩ := isOf hZ17 eh39 F40
          obtain ⟨_, _, ⟨T42, L42, k42, n42⟩, -, X42, ⟨Lc42, hQ42, l42, y42, z42⟩, st42⟩ := X39.virtualBack hx (y := (⟨"java/util/Optional", "orElse", "(Ljava/lang/Object;)Ljava/lang/Object;"⟩ : MethodName)) (z := (⟨"java/util/Optional", "orElse", "(Ljava/lang/Object;)Ljava/lang/Object;"⟩ : MethodName)) hown17 (mvT hZ17 (hw _ (List.mem_of_getElem? (i := 85) rfl))) (mvT hZ17 (hw _ (List.mem_of_getElem? (i := 86) rfl))) (notFace_of_selects (args := #[]) (mvT hZ17 (hw _ (List.mem_of_getElem? (i := 88) rfl)))) (mvT hZ17 (hw _ (List.mem_of_getElem? (i := 88) rfl))) (mvT hZ17 (hw _ (List.mem_of_getElem? (i := 87) rfl))) (by decide) (backOf (W := 0) (rmOpElG l Z a0 hw [] eA .null T34.heap n0 (Nat.le_trans Z0 (Nat.le_trans (Nat.le_trans (Nat.le_trans (Nat.le_trans (Nat.le_trans (Nat.le_trans (Nat.le_trans K2.1 K7.1) K12.1) K17.1) K19.1) K22.1) K29.1) K34.1)) G1 O2 P5 eA SE XE FE F35 F41 rfl) hZ17 (hw _ (List.mem_of_getElem? (i := 89) rfl)) (hw _ (List.mem_of_getElem? (i := 74) rfl)) (by decide) (by decide)) q42a q42c (g := (mkF m 215 #[.val (.int p1), .val (.int p2), .val (.int p3), .val (.int p4), .val (.int p5), .val (.int (0 : Int32)), .val (.ref x_2), .val w5, .val w10, .val w15, .val (.ref x_19), .val (.int (1 : Int32))] [.null, (.ref eA)])) rfl (by rw [hml]; rfl) (Steps.refl _) (argsL := [.null]) (rest := []) (lenOf pd_9 rfl) rfl (by show 2 * 0 + _ ≤ _; exact Nat.le_of_eq rfl) (hb hby at_215) (fun _ _ => ⟨rfl, eh39, (by decide : 20 + 0 ≤ _), (by decide : 48 + 0 ≤ _)⟩)
          dsimp only [Pt.U, Pt.locs, Pt.cells, Pt.slots] at X42 l42 y42 z42 st42 hQ42
          subst l42 y42 z42
          obtain ⟨rfl, Nq42, eh42⟩ := hQ42
          have N42 := Fr.app N39 Nq42
          refine Ends.go st42 ?_
          show Ends _ _ _ _ (T42.setTop (mkF m 218 #[.val (.int p1), .val (.int p2), .val (.int p3), .val (.int p4), .val (.int p5), .val (.int (0 : Int32)), .val (.ref x_2), .val w5, .val w10, .val w15, .val (.ref x_19), .val (.int (1 : Int32))] [.null]))
          refine Ends.step (fun t k => XS.ifnonnullNo X42.here hx rfl (hb hby at_218) rfl k) ?_
          show Ends _ _ _ _ (T42.setTop (mkF m 221 #[.val (.int p1), .val (.int p2), .val (.int p3), .val (.int p4), .val (.int p5), .val (.int (0 : Int32)), .val (.ref x_2), .val w5, .val w10, .val w15, .val (.ref x_19), .val (.int (1 : Int32))] []))
          refine Ends.step (fun t k => XS.iconst X42.here hx rfl (hb hby at_221) k) ?_
          show Ends _ _ _ _ (T42.setTop (mkF m 222 #[.val (.int p1), .val (.int p2), .val (.int p3), .val (.int p4), .val (.int p5), .val (.int (0 : Int32)), .val (.ref x_2), .val w5, .val w10, .val w15, .val (.ref x_19), .val (.int (1 : Int32))] [(.int (1 : Int32))]))
          refine Ends.step (fun t k => XS.goto X42.here hx rfl (pc0 := 222) (pc' := 226) rfl (hb hby at_222) (by decide) (by decide) k) ?_
          show Ends _ _ _ _ (T42.setTop (mkF m 226 #[.val (.int p1), .val (.int p2), .val (.int p3), .val (.int p4), .val (.int p5), .val (.int (0 : Int32)), .val (.ref x_2), .val w5, .val w10, .val w15, .val (.ref x_19), .val (.int (1 : Int32))] [(.int (1 : Int32))]))
          refine Ends.step (fun t k => XS.istore X42.here hx rfl (hb hby at_226) rfl (l' := #[.val (.int p1), .val (.int p2), .val (.int p3), .val (.int p4), .val (.int p5), .val (.int (0 : Int32)), .val (.ref x_2), .val w5, .val w10, .val w15, .val (.ref x_19), .val (.int (1 : Int32))]) rfl k) ?_
          show Ends _ _ _ _ (T42.setTop (mkF m 228 #[.val (.int p1), .val (.int p2), .val (.int p3), .val (.int p4), .val (.int p5), .val (.int (0 : Int32)), .val (.ref x_2), .val w5, .val w10, .val w15, .val (.ref x_19), .val (.int (1 : Int32))] []))
          refine Ends.step (fun t k => XS.iload X42.here hx rfl (hb hby at_228) rfl k) ?_
          show Ends _ _ _ _ (T42.setTop (mkF m 230 #[.val (.int p1), .val (.int p2), .val (.int p3), .val (.int p4), .val (.int p5), .val (.int (0 : Int32)), .val (.ref x_2), .val w5, .val w10, .val w15, .val (.ref x_19), .val (.int (1 : Int32))] [(.int (1 : Int32))]))
          refine Ends.step (fun t k => XS.ifNo X42.here hx rfl (hb hby at_230) rfl ((if0 _ _).trans (feq (by decide : ¬ ((1 : Int32) = (0 : Int32)))).1) k) ?_
          show Ends _ _ _ _ (T42.setTop (mkF m 233 #[.val (.int p1), .val (.int p2), .val (.int p3), .val (.int p4), .val (.int p5), .val (.int (0 : Int32)), .val (.ref x_2), .val w5, .val w10, .val w15, .val (.ref x_19), .val (.int (1 : Int32))] []))
          refine Ends.step (fun t k => XS.aload X42.here hx rfl (hb hby at_233) rfl rfl k) ?_
          show Ends _ _ _ _ (T42.setTop (mkF m 235 #[.val (.int p1), .val (.int p2), .val (.int p3), .val (.int p4), .val (.int p5), .val (.int (0 : Int32)), .val (.ref x_2), .val w5, .val w10, .val w15, .val (.ref x_19), .val (.int (1 : Int32))] [(.ref x_19)]))
          have F43 : Fld Z T34.heap x_19 "com/example/operatory/operatory/fhir/SearchValue$Alternative" "number" "Ljava/math/BigDecimal;" .null := (((f19_4.keep K22 nin0).keep K29 nin0).keep K34 nin0)
          obtain ⟨cq44, kq44, q44a, q44b, q44c⟩ := isOf hZ17 eh42 F37
          obtain ⟨_, _, ⟨T44, L44, k44, n44⟩, -, X44, ⟨Lc44, hQ44, l44, y44, z44⟩, st44⟩ := X42.virtualBack hx (y := (⟨"com/example/operatory/operatory/fhir/SearchValue$Alternative", "number", "()Ljava/util/Optional;"⟩ : MethodName)) (z := (⟨"com/example/operatory/operatory/fhir/SearchValue$Alternative", "number", "()Ljava/util/Optional;"⟩ : MethodName)) hown17 (mvT hZ17 (hw _ (List.mem_of_getElem? (i := 111) rfl))) (mvT hZ17 (hw _ (List.mem_of_getElem? (i := 112) rfl))) (notFace_of_selects (args := #[]) (mvT hZ17 (hw _ (List.mem_of_getElem? (i := 114) rfl)))) (mvT hZ17 (hw _ (List.mem_of_getElem? (i := 114) rfl))) (mvT hZ17 (hw _ (List.mem_of_getElem? (i := 113) rfl))) (by decide) (backOf (W := 0) (rmGn_number l Z a0 hw [] x_19 T34.heap n0 (Nat.le_trans Z0 (Nat.le_trans (Nat.le_trans (Nat.le_trans (Nat.le_trans (Nat.le_trans (Nat.le_trans (Nat.le_trans K2.1 K7.1) K12.1) K17.1) K19.1) K22.1) K29.1) K34.1)) G1 O2 P5 eA SE XE FE F35 F43) hZ17 (hw _ (List.mem_of_getElem? (i := 115) rfl)) (hw _ (List.mem_of_getElem? (i := 28) rfl)) (by decide) (by decide)) q44a q44c (g := (mkF m 235 #[.val (.int p1), .val (.int p2), .val (.int p3), .val (.int p4), .val (.int p5), .val (.int (0 : Int32)), .val (.ref x_2), .val w5, .val w10, .val w15, .val (.ref x_19), .val (.int (1 : Int32))] [(.ref x_19)])) rfl (by rw [hml]; rfl) (Steps.refl _) (argsL := []) (rest := []) (lenOf pd_8 rfl) rfl (by show 2 * 0 + _ ≤ _; exact Nat.le_of_eq rfl) (hb hby at_235) (fun _ _ => ⟨rfl, eh42, (by decide : 20 + 0 ≤ _), (by decide : 48 + 0 ≤ _)⟩)
          dsimp only [Pt.U, Pt.locs, Pt.cells, Pt.slots] at X44 l44 y44 z44 st44 hQ44
          subst l44 y44 z44
          obtain ⟨rfl, Nq44, eh44⟩ := hQ44
          have N44 := Fr.app N42 Nq44
          refine Ends.go st44 ?_
          show Ends _ _ _ _ (T44.setTop (mkF m 238 #[.val (.int p1), .val (.int p2), .val (.int p3), .val (.int p4), .val (.int p5), .val (.int (0 : Int32)), .val (.ref x_2), .val w5, .val w10, .val w15, .val (.ref x_19), .val (.int (1 : Int32))] [(.ref eA)]))
          refine Ends.step (fun t k => XS.aconstNull X44.here hx rfl (hb hby at_238) k) ?_
          show Ends _ _ _ _ (T44.setTop (mkF m 239 #[.val (.int p1), .val (.int p2), .val (.int p3), .val (.int p4), .val (.int p5), .val (.int (0 : Int32)), .val (.ref x_2), .val w5, .val w10, .val w15, .val (.ref x_19), .val (.int (1 : Int32))] [.null, (.ref eA)]))
          obtain ⟨cq45, kq45, q45a, q45b, q45c⟩ := isOf hZ17 eh44 F40
          obtain ⟨_, _, ⟨T45, L45, k45, n45⟩, -, X45, ⟨Lc45, hQ45, l45, y45, z45⟩, st45⟩ := X44.virtualBack hx (y := (⟨"java/util/Optional", "orElse", "(Ljava/lang/Object;)Ljava/lang/Object;"⟩ : MethodName)) (z := (⟨"java/util/Optional", "orElse", "(Ljava/lang/Object;)Ljava/lang/Object;"⟩ : MethodName)) hown17 (mvT hZ17 (hw _ (List.mem_of_getElem? (i := 85) rfl))) (mvT hZ17 (hw _ (List.mem_of_getElem? (i := 86) rfl))) (notFace_of_selects (args := #[]) (mvT hZ17 (hw _ (List.mem_of_getElem? (i := 88) rfl)))) (mvT hZ17 (hw _ (List.mem_of_getElem? (i := 88) rfl))) (mvT hZ17 (hw _ (List.mem_of_getElem? (i := 87) rfl))) (by decide) (backOf (W := 0) (rmOpElG l Z a0 hw [] eA .null T34.heap n0 (Nat.le_trans Z0 (Nat.le_trans (Nat.le_trans (Nat.le_trans (Nat.le_trans (Nat.le_trans (Nat.le_trans (Nat.le_trans K2.1 K7.1) K12.1) K17.1) K19.1) K22.1) K29.1) K34.1)) G1 O2 P5 eA SE XE FE F35 F41 rfl) hZ17 (hw _ (List.mem_of_getElem? (i := 89) rfl)) (hw _ (List.mem_of_getElem? (i := 74) rfl)) (by decide) (by decide)) q45a q45c (g := (mkF m 239 #[.val (.int p1), .val (.int p2), .val (.int p3), .val (.int p4), .val (.int p5), .val (.int (0 : Int32)), .val (.ref x_2), .val w5, .val w10, .val w15, .val (.ref x_19), .val (.int (1 : Int32))] [.null, (.ref eA)])) rfl (by rw [hml]; rfl) (Steps.refl _) (argsL := [.null]) (rest := []) (lenOf pd_9 rfl) rfl (by show 2 * 0 + _ ≤ _; exact Nat.le_of_eq rfl) (hb hby at_239) (fun _ _ => ⟨rfl, eh44, (by decide : 20 + 0 ≤ _), (by decide : 48 + 0 ≤ _)⟩)
          dsimp only [Pt.U, Pt.locs, Pt.cells, Pt.slots] at X45 l45 y45 z45 st45 hQ45
          subst l45 y45 z45
          obtain ⟨rfl, Nq45, eh45⟩ := hQ45
          have N45 := Fr.app N44 Nq45
          refine Ends.go st45 ?_
          show Ends _ _ _ _ (T45.setTop (mkF m 242 #[.val (.int p1), .val (.int p2), .val (.int p3), .val (.int p4), .val (.int p5), .val (.int (0 : Int32)), .val (.ref x_2), .val w5, .val w10, .val w15, .val (.ref x_19), .val (.int (1 : Int32))] [.null]))
          refine Ends.step (fun t k => XS.ifnonnullNo X45.here hx rfl (hb hby at_242) rfl k) ?_
          show Ends _ _ _ _ (T45.setTop (mkF m 245 #[.val (.int p1), .val (.int p2), .val (.int p3), .val (.int p4), .val (.int p5), .val (.int (0 : Int32)), .val (.ref x_2), .val w5, .val w10, .val w15, .val (.ref x_19), .val (.int (1 : Int32))] []))
          refine Ends.step (fun t k => XS.iconst X45.here hx rfl (hb hby at_245) k) ?_
          show Ends _ _ _ _ (T45.setTop (mkF m 246 #[.val (.int p1), .val (.int p2), .val (.int p3), .val (.int p4), .val (.int p5), .val (.int (0 : Int32)), .val (.ref x_2), .val w5, .val w10, .val w15, .val (.ref x_19), .val (.int (1 : Int32))] [(.int (1 : Int32))]))
          refine Ends.step (fun t k => XS.goto X45.here hx rfl (pc0 := 246) (pc' := 250) rfl (hb hby at_246) (by decide) (by decide) k) ?_
          show Ends _ _ _ _ (T45.setTop (mkF m 250 #[.val (.int p1), .val (.int p2), .val (.int p3), .val (.int p4), .val (.int p5), .val (.int (0 : Int32)), .val (.ref x_2), .val w5, .val w10, .val w15, .val (.ref x_19), .val (.int (1 : Int32))] [(.int (1 : Int32))]))
          refine Ends.step (fun t k => XS.istore X45.here hx rfl (hb hby at_250) rfl (l' := #[.val (.int p1), .val (.int p2), .val (.int p3), .val (.int p4), .val (.int p5), .val (.int (0 : Int32)), .val (.ref x_2), .val w5, .val w10, .val w15, .val (.ref x_19), .val (.int (1 : Int32))]) rfl k) ?_
          show Ends _ _ _ _ (T45.setTop (mkF m 252 #[.val (.int p1), .val (.int p2), .val (.int p3), .val (.int p4), .val (.int p5), .val (.int (0 : Int32)), .val (.ref x_2), .val w5, .val w10, .val w15, .val (.ref x_19), .val (.int (1 : Int32))] []))
          refine Ends.step (fun t k => XS.iload X45.here hx rfl (hb hby at_252) rfl k) ?_
          show Ends _ _ _ _ (T45.setTop (mkF m 254 #[.val (.int p1), .val (.int p2), .val (.int p3), .val (.int p4), .val (.int p5), .val (.int (0 : Int32)), .val (.ref x_2), .val w5, .val w10, .val w15, .val (.ref x_19), .val (.int (1 : Int32))] [(.int (1 : Int32))]))
          refine Ends.step (fun t k => XS.ifNo X45.here hx rfl (hb hby at_254) rfl ((if0 _ _).trans (feq (by decide : ¬ ((1 : Int32) = (0 : Int32)))).1) k) ?_
          show Ends _ _ _ _ (T45.setTop (mkF m 257 #[.val (.int p1), .val (.int p2), .val (.int p3), .val (.int p4), .val (.int p5), .val (.int (0 : Int32)), .val (.ref x_2), .val w5, .val w10, .val w15, .val (.ref x_19), .val (.int (1 : Int32))] []))
          refine Ends.step (fun t k => XS.aload X45.here hx rfl (hb hby at_257) rfl rfl k) ?_
          show Ends _ _ _ _ (T45.setTop (mkF m 259 #[.val (.int p1), .val (.int p2), .val (.int p3), .val (.int p4), .val (.int p5), .val (.int (0 : Int32)), .val (.ref x_2), .val w5, .val w10, .val w15, .val (.ref x_19), .val (.int (1 : Int32))] [(.ref x_19)]))
          have F46 : Fld Z T34.heap x_19 "com/example/operatory/operatory/fhir/SearchValue$Alternative" "type" "Ljava/lang/String;" .null := (((f19_11.keep K22 nin0).keep K29 nin0).keep K34 nin0)
          obtain ⟨cq47, kq47, q47a, q47b, q47c⟩ := isOf hZ17 eh45 F37
          obtain ⟨_, _, ⟨T47, L47, k47, n47⟩, -, X47, ⟨Lc47, hQ47, l47, y47, z47⟩, st47⟩ := X45.virtualBack hx (y := (⟨"com/example/operatory/operatory/fhir/SearchValue$Alternative", "type", "()Ljava/util/Optional;"⟩ : MethodName)) (z := (⟨"com/example/operatory/operatory/fhir/SearchValue$Alternative", "type", "()Ljava/util/Optional;"⟩ : MethodName)) hown17 (mvT hZ17 (hw _ (List.mem_of_getElem? (i := 116) rfl))) (mvT hZ17 (hw _ (List.mem_of_getElem? (i := 117) rfl))) (notFace_of_selects (args := #[]) (mvT hZ17 (hw _ (List.mem_of_getElem? (i := 119) rfl)))) (mvT hZ17 (hw _ (List.mem_of_getElem? (i := 119) rfl))) (mvT hZ17 (hw _ (List.mem_of_getElem? (i := 118) rfl))) (by decide) (backOf (W := 0) (rmGn_type l Z a0 hw [] x_19 T34.heap n0 (Nat.le_trans Z0 (Nat.le_trans (Nat.le_trans (Nat.le_trans (Nat.le_trans (Nat.le_trans (Nat.le_trans (Nat.le_trans K2.1 K7.1) K12.1) K17.1) K19.1) K22.1) K29.1) K34.1)) G1 O2 P5 eA SE XE FE F35 F46) hZ17 (hw _ (List.mem_of_getElem? (i := 120) rfl)) (hw _ (List.mem_of_getElem? (i := 28) rfl)) (by decide) (by decide)) q47a q47c (g := (mkF m 259 #[.val (.int p1), .val (.int p2), .val (.int p3), .val (.int p4), .val (.int p5), .val (.int (0 : Int32)), .val (.ref x_2), .val w5, .val w10, .val w15, .val (.ref x_19), .val (.int (1 : Int32))] [(.ref x_19)])) rfl (by rw [hml]; rfl) (Steps.refl _) (argsL := []) (rest := []) (lenOf pd_8 rfl) rfl (by show 2 * 0 + _ ≤ _; exact Nat.le_of_eq rfl) (hb hby at_259) (fun _ _ => ⟨rfl, eh45, (by decide : 20 + 0 ≤ _), (by decide : 48 + 0 ≤ _)⟩)
          dsimp only [Pt.U, Pt.locs, Pt.cells, Pt.slots] at X47 l47 y47 z47 st47 hQ47
          subst l47 y47 z47
          obtain ⟨rfl, Nq47, eh47⟩ := hQ47
          have N47 := Fr.app N45 Nq47
          refine Ends.go st47 ?_
          show Ends _ _ _ _ (T47.setTop (mkF m 262 #[.val (.int p1), .val (.int p2), .val (.int p3), .val (.int p4), .val (.int p5), .val (.int (0 : Int32)), .val (.ref x_2), .val w5, .val w10, .val w15, .val (.ref x_19), .val (.int (1 : Int32))] [(.ref eA)]))
          refine Ends.step (fun t k => XS.aconstNull X47.here hx rfl (hb hby at_262) k) ?_
          show Ends _ _ _ _ (T47.setTop (mkF m 263 #[.val (.int p1), .val (.int p2), .val (.int p3), .val (.int p4), .val (.int p5), .val (.int (0 : Int32)), .val (.ref x_2), .val w5, .val w10, .val w15, .val (.ref x_19), .val (.int (1 : Int32))] [.null, (.ref eA)]))
          obtain ⟨cq48, kq48, q48a, q48b, q48c⟩ := isOf hZ17 eh47 F40
          obtain ⟨_, _, ⟨T48, L48, k48, n48⟩, -, X48, ⟨Lc48, hQ48, l48, y48, z48⟩, st48⟩ := X47.virtualBack hx (y := (⟨"java/util/Optional", "orElse", "(Ljava/lang/Object;)Ljava/lang/Object;"⟩ : MethodName)) (z := (⟨"java/util/Optional", "orElse", "(Ljava/lang/Object;)Ljava/lang/Object;"⟩ : MethodName)) hown17 (mvT hZ17 (hw _ (List.mem_of_getElem? (i := 85) rfl))) (mvT hZ17 (hw _ (List.mem_of_getElem? (i := 86) rfl))) (notFace_of_selects (args := #[]) (mvT hZ17 (hw _ (List.mem_of_getElem? (i := 88) rfl)))) (mvT hZ17 (hw _ (List.mem_of_getElem? (i := 88) rfl))) (mvT hZ17 (hw _ (List.mem_of_getElem? (i := 87) rfl))) (by decide) (backOf (W := 0) (rmOpElG l Z a0 hw [] eA .null T34.heap n0 (Nat.le_trans Z0 (Nat.le_trans (Nat.le_trans (Nat.le_trans (Nat.le_trans (Nat.le_trans (Nat.le_trans (Nat.le_trans K2.1 K7.1) K12.1) K17.1) K19.1) K22.1) K29.1) K34.1)) G1 O2 P5 eA SE XE FE F35 F41 rfl) hZ17 (hw _ (List.mem_of_getElem? (i := 89) rfl)) (hw _ (List.mem_of_getElem? (i := 74) rfl)) (by decide) (by decide)) q48a q48c (g := (mkF m 263 #[.val (.int p1), .val (.int p2), .val (.int p3), .val (.int p4), .val (.int p5), .val (.int (0 : Int32)), .val (.ref x_2), .val w5, .val w10, .val w15, .val (.ref x_19), .val (.int (1 : Int32))] [.null, (.ref eA)])) rfl (by rw [hml]; rfl) (Steps.refl _) (argsL := [.null]) (rest := []) (lenOf pd_9 rfl) rfl (by show 2 * 0 + _ ≤ _; exact Nat.le_of_eq rfl) (hb hby at_263) (fun _ _ => ⟨rfl, eh47, (by decide : 20 + 0 ≤ _), (by decide : 48 + 0 ≤ _)⟩)
          dsimp only [Pt.U, Pt.locs, Pt.cells, Pt.slots] at X48 l48 y48 z48 st48 hQ48
          subst l48 y48 z48
          obtain ⟨rfl, Nq48, eh48⟩ := hQ48
          have N48 := Fr.app N47 Nq48
          refine Ends.go st48 ?_
          show Ends _ _ _ _ (T48.setTop (mkF m 266 #[.val (.int p1), .val (.int p2), .val (.int p3), .val (.int p4), .val (.int p5), .val (.int (0 : Int32)), .val (.ref x_2), .val w5, .val w10, .val w15, .val (.ref x_19), .val (.int (1 : Int32))] [.null]))
          refine Ends.step (fun t k => XS.ifnonnullNo X48.here hx rfl (hb hby at_266) rfl k) ?_
          show Ends _ _ _ _ (T48.setTop (mkF m 269 #[.val (.int p1), .val (.int p2), .val (.int p3), .val (.int p4), .val (.int p5), .val (.int (0 : Int32)), .val (.ref x_2), .val w5, .val w10, .val w15, .val (.ref x_19), .val (.int (1 : Int32))] []))
          refine Ends.step (fun t k => XS.iconst X48.here hx rfl (hb hby at_269) k) ?_
          show Ends _ _ _ _ (T48.setTop (mkF m 270 #[.val (.int p1), .val (.int p2), .val (.int p3), .val (.int p4), .val (.int p5), .val (.int (0 : Int32)), .val (.ref x_2), .val w5, .val w10, .val w15, .val (.ref x_19), .val (.int (1 : Int32))] [(.int (1 : Int32))]))
          refine Ends.step (fun t k => XS.goto X48.here hx rfl (pc0 := 270) (pc' := 274) rfl (hb hby at_270) (by decide) (by decide) k) ?_
          show Ends _ _ _ _ (T48.setTop (mkF m 274 #[.val (.int p1), .val (.int p2), .val (.int p3), .val (.int p4), .val (.int p5), .val (.int (0 : Int32)), .val (.ref x_2), .val w5, .val w10, .val w15, .val (.ref x_19), .val (.int (1 : Int32))] [(.int (1 : Int32))]))
          refine Ends.step (fun t k => XS.istore X48.here hx rfl (hb hby at_274) rfl (l' := #[.val (.int p1), .val (.int p2), .val (.int p3), .val (.int p4), .val (.int p5), .val (.int (0 : Int32)), .val (.ref x_2), .val w5, .val w10, .val w15, .val (.ref x_19), .val (.int (1 : Int32))]) rfl k) ?_
          show Ends _ _ _ _ (T48.setTop (mkF m 276 #[.val (.int p1), .val (.int p2), .val (.int p3), .val (.int p4), .val (.int p5), .val (.int (0 : Int32)), .val (.ref x_2), .val w5, .val w10, .val w15, .val (.ref x_19), .val (.int (1 : Int32))] []))
          refine Ends.step (fun t k => XS.iload X48.here hx rfl (hb hby at_276) rfl k) ?_
          show Ends _ _ _ _ (T48.setTop (mkF m 278 #[.val (.int p1), .val (.int p2), .val (.int p3), .val (.int p4), .val (.int p5), .val (.int (0 : Int32)), .val (.ref x_2), .val w5, .val w10, .val w15, .val (.ref x_19), .val (.int (1 : Int32))] [(.int (1 : Int32))]))
          refine Ends.step (fun t k => XS.ifNo X48.here hx rfl (hb hby at_278) rfl ((if0 _ _).trans (feq (by decide : ¬ ((1 : Int32) = (0 : Int32)))).1) k) ?_
          show Ends _ _ _ _ (T48.setTop (mkF m 281 #[.val (.int p1), .val (.int p2), .val (.int p3), .val (.int p4), .val (.int p5), .val (.int (0 : Int32)), .val (.ref x_2), .val w5, .val w10, .val w15, .val (.ref x_19), .val (.int (1 : Int32))] []))
          refine Ends.step (fun t k => XS.aload X48.here hx rfl (hb hby at_281) rfl rfl k) ?_
          show Ends _ _ _ _ (T48.setTop (mkF m 283 #[.val (.int p1), .val (.int p2), .val (.int p3), .val (.int p4), .val (.int p5), .val (.int (0 : Int32)), .val (.ref x_2), .val w5, .val w10, .val w15, .val (.ref x_19), .val (.int (1 : Int32))] [(.ref x_19)]))
          have F49 : Fld Z T34.heap x_19 "com/example/operatory/operatory/fhir/SearchValue$Alternative" "url" "Ljava/lang/String;" .null := (((f19_13.keep K22 nin0).keep K29 nin0).keep K34 nin0)
          obtain ⟨cq50, kq50, q50a, q50b, q50c⟩ := isOf hZ17 eh48 F37
          obtain ⟨_, _, ⟨T50, L50, k50, n50⟩, -, X50, ⟨Lc50, hQ50, l50, y50, z50⟩, st50⟩ := X48.virtualBack hx (y := (⟨"com/example/operatory/operatory/fhir/SearchValue$Alternative", "url", "()Ljava/util/Optional;"⟩ : MethodName)) (z := (⟨"com/example/operatory/operatory/fhir/SearchValue$Alternative", "url", "()Ljava/util/Optional;"⟩ : MethodName)) hown17 (mvT hZ17 (hw _ (List.mem_of_getElem? (i := 121) rfl))) (mvT hZ17 (hw _ (List.mem_of_getElem? (i := 122) rfl))) (notFace_of_selects (args := #[]) (mvT hZ17 (hw _ (List.mem_of_getElem? (i := 124) rfl)))) (mvT hZ17 (hw _ (List.mem_of_getElem? (i := 124) rfl))) (mvT hZ17 (hw _ (List.mem_of_getElem? (i := 123) rfl))) (by decide) (backOf (W := 0) (rmGn_url l Z a0 hw [] x_19 T34.heap n0 (Nat.le_trans Z0 (Nat.le_trans (Nat.le_trans (Nat.le_trans (Nat.le_trans (Nat.le_trans (Nat.le_trans (Nat.le_trans K2.1 K7.1) K12.1) K17.1) K19.1) K22.1) K29.1) K34.1)) G1 O2 P5 eA SE XE FE F35 F49) hZ17 (hw _ (List.mem_of_getElem? (i := 125) rfl)) (hw _ (List.mem_of_getElem? (i := 28) rfl)) (by decide) (by decide)) q50a q50c (g := (mkF m 283 #[.val (.int p1), .val (.int p2), .val (.int p3), .val (.int p4), .val (.int p5), .val (.int (0 : Int32)), .val (.ref x_2), .val w5, .val w10, .val w15, .val (.ref x_19), .val (.int (1 : Int32))] [(.ref x_19)])) rfl (by rw [hml]; rfl) (Steps.refl _) (argsL := []) (rest := []) (lenOf pd_8 rfl) rfl (by show 2 * 0 + _ ≤ _; exact Nat.le_of_eq rfl) (hb hby at_283) (fun _ _ => ⟨rfl, eh48, (by decide : 20 + 0 ≤ _), (by decide : 48 + 0 ≤ _)⟩)
          dsimp only [Pt.U, Pt.locs, Pt.cells, Pt.slots] at X50 l50 y50 z50 st50 hQ50
          subst l50 y50 z50
          obtain ⟨rfl, Nq50, eh50⟩ := hQ50
          have N50 := Fr.app N48 Nq50
          refine Ends.go st50 ?_
          show Ends _ _ _ _ (T50.setTop (mkF m 286 #[.val (.int p1), .val (.int p2), .val (.int p3), .val (.int p4), .val (.int p5), .val (.int (0 : Int32)), .val (.ref x_2), .val w5, .val w10, .val w15, .val (.ref x_19), .val (.int (1 : Int32))] [(.ref eA)]))
          refine Ends.step (fun t k => XS.aconstNull X50.here hx rfl (hb hby at_286) k) ?_
          show Ends _ _ _ _ (T50.setTop (mkF m 287 #[.val (.int p1), .val (.int p2), .val (.int p3), .val (.int p4), .val (.int p5), .val (.int (0 : Int32)), .val (.ref x_2), .val w5, .val w10, .val w15, .val (.ref x_19), .val (.int (1 : Int32))] [.null, (.ref eA)]))
          obtain ⟨cq51, kq51, q51a, q51b, q51c⟩ := isOf hZ17 eh50 F40
          obtain ⟨_, _, ⟨T51, L51, k51, n51⟩, -, X51, ⟨Lc51, hQ51, l51, y51, z51⟩, st51⟩ := X50.virtualBack hx (y := (⟨"java/util/Optional", "orElse", "(Ljava/lang/Object;)Ljava/lang/Object;"⟩ : MethodName)) (z := (⟨"java/util/Optional", "orElse", "(Ljava/lang/Object;)Ljava/lang/Object;"⟩ : MethodName)) hown17 (mvT hZ17 (hw _ (List.mem_of_getElem? (i := 85) rfl))) (mvT hZ17 (hw _ (List.mem_of_getElem? (i := 86) rfl))) (notFace_of_selects (args := #[]) (mvT hZ17 (hw _ (List.mem_of_getElem? (i := 88) rfl)))) (mvT hZ17 (hw _ (List.mem_of_getElem? (i := 88) rfl))) (mvT hZ17 (hw _ (List.mem_of_getElem? (i := 87) rfl))) (by decide) (backOf (W := 0) (rmOpElG l Z a0 hw [] eA .null T34.heap n0 (Nat.le_trans Z0 (Nat.le_trans (Nat.le_trans (Nat.le_trans (Nat.le_trans (Nat.le_trans (Nat.le_trans (Nat.le_trans K2.1 K7.1) K12.1) K17.1) K19.1) K22.1) K29.1) K34.1)) G1 O2 P5 eA SE XE FE F35 F41 rfl) hZ17 (hw _ (List.mem_of_getElem? (i := 89) rfl)) (hw _ (List.mem_of_getElem? (i := 74) rfl)) (by decide) (by decide)) q51a q51c (g := (mkF m 287 #[.val (.int p1), .val (.int p2), .val (.int p3), .val (.int p4), .val (.int p5), .val (.int (0 : Int32)), .val (.ref x_2), .val w5, .val w10, .val w15, .val (.ref x_19), .val (.int (1 : Int32))] [.null, (.ref eA)])) rfl (by rw [hml]; rfl) (Steps.refl _) (argsL := [.null]) (rest := []) (lenOf pd_9 rfl) rfl (by show 2 * 0 + _ ≤ _; exact Nat.le_of_eq rfl) (hb hby at_287) (fun _ _ => ⟨rfl, eh50, (by decide : 20 + 0 ≤ _), (by decide : 48 + 0 ≤ _)⟩)
          dsimp only [Pt.U, Pt.locs, Pt.cells, Pt.slots] at X51 l51 y51 z51 st51 hQ51
          subst l51 y51 z51
          obtain ⟨rfl, Nq51, eh51⟩ := hQ51
          have N51 := Fr.app N50 Nq51
          refine Ends.go st51 ?_
          show Ends _ _ _ _ (T51.setTop (mkF m 290 #[.val (.int p1), .val (.int p2), .val (.int p3), .val (.int p4), .val (.int p5), .val (.int (0 : Int32)), .val (.ref x_2), .val w5, .val w10, .val w15, .val (.ref x_19), .val (.int (1 : Int32))] [.null]))
          refine Ends.step (fun t k => XS.ifnonnullNo X51.here hx rfl (hb hby at_290) rfl k) ?_
          show Ends _ _ _ _ (T51.setTop (mkF m 293 #[.val (.int p1), .val (.int p2), .val (.int p3), .val (.int p4), .val (.int p5), .val (.int (0 : Int32)), .val (.ref x_2), .val w5, .val w10, .val w15, .val (.ref x_19), .val (.int (1 : Int32))] []))
          refine Ends.step (fun t k => XS.iconst X51.here hx rfl (hb hby at_293) k) ?_
          show Ends _ _ _ _ (T51.setTop (mkF m 294 #[.val (.int p1), .val (.int p2), .val (.int p3), .val (.int p4), .val (.int p5), .val (.int (0 : Int32)), .val (.ref x_2), .val w5, .val w10, .val w15, .val (.ref x_19), .val (.int (1 : Int32))] [(.int (1 : Int32))]))
          refine Ends.step (fun t k => XS.goto X51.here hx rfl (pc0 := 294) (pc' := 298) rfl (hb hby at_294) (by decide) (by decide) k) ?_
          show Ends _ _ _ _ (T51.setTop (mkF m 298 #[.val (.int p1), .val (.int p2), .val (.int p3), .val (.int p4), .val (.int p5), .val (.int (0 : Int32)), .val (.ref x_2), .val w5, .val w10, .val w15, .val (.ref x_19), .val (.int (1 : Int32))] [(.int (1 : Int32))]))
          refine Ends.step (fun t k => XS.istore X51.here hx rfl (hb hby at_298) rfl (l' := #[.val (.int p1), .val (.int p2), .val (.int p3), .val (.int p4), .val (.int p5), .val (.int (0 : Int32)), .val (.ref x_2), .val w5, .val w10, .val w15, .val (.ref x_19), .val (.int (1 : Int32))]) rfl k) ?_
          show Ends _ _ _ _ (T51.setTop (mkF m 300 #[.val (.int p1), .val (.int p2), .val (.int p3), .val (.int p4), .val (.int p5), .val (.int (0 : Int32)), .val (.ref x_2), .val w5, .val w10, .val w15, .val (.ref x_19), .val (.int (1 : Int32))] []))
          refine Ends.step (fun t k => XS.iload X51.here hx rfl (hb hby at_300) rfl k) ?_
          show Ends _ _ _ _ (T51.setTop (mkF m 302 #[.val (.int p1), .val (.int p2), .val (.int p3), .val (.int p4), .val (.int p5), .val (.int (0 : Int32)), .val (.ref x_2), .val w5, .val w10, .val w15, .val (.ref x_19), .val (.int (1 : Int32))] [(.int (1 : Int32))]))
          refine Ends.step (fun t k => XS.ifNo X51.here hx rfl (hb hby at_302) rfl ((if0 _ _).trans (feq (by decide : ¬ ((1 : Int32) = (0 : Int32)))).1) k) ?_
          show Ends _ _ _ _ (T51.setTop (mkF m 305 #[.val (.int p1), .val (.int p2), .val (.int p3), .val (.int p4), .val (.int p5), .val (.int (0 : Int32)), .val (.ref x_2), .val w5, .val w10, .val w15, .val (.ref x_19), .val (.int (1 : Int32))] []))
          refine Ends.step (fun t k => XS.aload X51.here hx rfl (hb hby at_305) rfl rfl k) ?_
          show Ends _ _ _ _ (T51.setTop (mkF m 307 #[.val (.int p1), .val (.int p2), .val (.int p3), .val (.int p4), .val (.int p5), .val (.int (0 : Int32)), .val (.ref x_2), .val w5, .val w10, .val w15, .val (.ref x_19), .val (.int (1 : Int32))] [(.ref x_19)]))
          have F52 : Fld Z T34.heap x_19 "com/example/operatory/operatory/fhir/SearchValue$Alternative" "missing" "Ljava/lang/Boolean;" .null := (((f19_14.keep K22 nin0).keep K29 nin0).keep K34 nin0)
          obtain ⟨cq53, kq53, q53a, q53b, q53c⟩ := isOf hZ17 eh51 F37
          obtain ⟨_, _, ⟨T53, L53, k53, n53⟩, -, X53, ⟨Lc53, hQ53, l53, y53, z53⟩, st53⟩ := X51.virtualBack hx (y := (⟨"com/example/operatory/operatory/fhir/SearchValue$Alternative", "missing", "()Ljava/util/Optional;"⟩ : MethodName)) (z := (⟨"com/example/operatory/operatory/fhir/SearchValue$Alternative", "missing", "()Ljava/util/Optional;"⟩ : MethodName)) hown17 (mvT hZ17 (hw _ (List.mem_of_getElem? (i := 126) rfl))) (mvT hZ17 (hw _ (List.mem_of_getElem? (i := 127) rfl))) (notFace_of_selects (args := #[]) (mvT hZ17 (hw _ (List.mem_of_getElem? (i := 129) rfl)))) (mvT hZ17 (hw _ (List.mem_of_getElem? (i := 129) rfl))) (mvT hZ17 (hw _ (List.mem_of_getElem? (i := 128) rfl))) (by decide) (backOf (W := 0) (rmGn_missing l Z a0 hw [] x_19 T34.heap n0 (Nat.le_trans Z0 (Nat.le_trans (Nat.le_trans (Nat.le_trans (Nat.le_trans (Nat.le_trans (Nat.le_trans (Nat.le_trans K2.1 K7.1) K12.1) K17.1) K19.1) K22.1) K29.1) K34.1)) G1 O2 P5 eA SE XE FE F35 F52) hZ17 (hw _ (List.mem_of_getElem? (i := 130) rfl)) (hw _ (List.mem_of_getElem? (i := 28) rfl)) (by decide) (by decide)) q53a q53c (g := (mkF m 307 #[.val (.int p1), .val (.int p2), .val (.int p3), .val (.int p4), .val (.int p5), .val (.int (0 : Int32)), .val (.ref x_2), .val w5, .val w10, .val w15, .val (.ref x_19), .val (.int (1 : Int32))] [(.ref x_19)])) rfl (by rw [hml]; rfl) (Steps.refl _) (argsL := []) (rest := []) (lenOf pd_8 rfl) rfl (by show 2 * 0 + _ ≤ _; exact Nat.le_of_eq rfl) (hb hby at_307) (fun _ _ => ⟨rfl, eh51, (by decide : 20 + 0 ≤ _), (by decide : 48 + 0 ≤ _)⟩)
          dsimp only [Pt.U, Pt.locs, Pt.cells, Pt.slots] at X53 l53 y53 z53 st53 hQ53
          subst l53 y53 z53
          obtain ⟨rfl, Nq53, eh53⟩ := hQ53
          have N53 := Fr.app N51 Nq53
          refine Ends.go st53 ?_
          show Ends _ _ _ _ (T53.setTop (mkF m 310 #[.val (.int p1), .val (.int p2), .val (.int p3), .val (.int p4), .val (.int p5), .val (.int (0 : Int32)), .val (.ref x_2), .val w5, .val w10, .val w15, .val (.ref x_19), .val (.int (1 : Int32))] [(.ref eA)]))
          refine Ends.step (fun t k => XS.aconstNull X53.here hx rfl (hb hby at_310) k) ?_
          show Ends _ _ _ _ (T53.setTop (mkF m 311 #[.val (.int p1), .val (.int p2), .val (.int p3), .val (.int p4), .val (.int p5), .val (.int (0 : Int32)), .val (.ref x_2), .val w5, .val w10, .val w15, .val (.ref x_19), .val (.int (1 : Int32))] [.null, (.ref eA)]))
          obtain ⟨cq54, kq54, q54a, q54b, q54c⟩ := isOf hZ17 eh53 F40
          obtain ⟨_, _, ⟨T54, L54, k54, n54⟩, -, X54, ⟨Lc54, hQ54, l54, y54, z54⟩, st54⟩ := X53.virtualBack hx (y := (⟨"java/util/Optional", "orElse", "(Ljava/lang/Object;)Ljava/lang/Object;"⟩ : MethodName)) (z := (⟨"java/util/Optional", "orElse", "(Ljava/lang/Object;)Ljava/lang/Object;"⟩ : MethodName)) hown17 (mvT hZ17 (hw _ (List.mem_of_getElem? (i := 85) rfl))) (mvT hZ17 (hw _ (List.mem_of_getElem? (i := 86) rfl))) (notFace_of_selects (args := #[]) (mvT hZ17 (hw _ (List.mem_of_getElem? (i := 88) rfl)))) (mvT hZ17 (hw _ (List.mem_of_getElem? (i := 88) rfl))) (mvT hZ17 (hw _ (List.mem_of_getElem? (i := 87) rfl))) (by decide) (backOf (W := 0) (rmOpElG l Z a0 hw [] eA .null T34.heap n0 (Nat.le_trans Z0 (Nat.le_trans (Nat.le_trans (Nat.le_trans (Nat.le_trans (Nat.le_trans (Nat.le_trans (Nat.le_trans K2.1 K7.1) K12.1) K17.1) K19.1) K22.1) K29.1) K34.1)) G1 O2 P5 eA SE XE FE F35 F41 rfl) hZ17 (hw _ (List.mem_of_getElem? (i := 89) rfl)) (hw _ (List.mem_of_getElem? (i := 74) rfl)) (by decide) (by decide)) q54a q54c (g := (mkF m 311 #[.val (.int p1), .val (.int p2), .val (.int p3), .val (.int p4), .val (.int p5), .val (.int (0 : Int32)), .val (.ref x_2), .val w5, .val w10, .val w15, .val (.ref x_19), .val (.int (1 : Int32))] [.null, (.ref eA)])) rfl (by rw [hml]; rfl) (Steps.refl _) (argsL := [.null]) (rest := []) (lenOf pd_9 rfl) rfl (by show 2 * 0 + _ ≤ _; exact Nat.le_of_eq rfl) (hb hby at_311) (fun _ _ => ⟨rfl, eh53, (by decide : 20 + 0 ≤ _), (by decide : 48 + 0 ≤ _)⟩)
          dsimp only [Pt.U, Pt.locs, Pt.cells, Pt.slots] at X54 l54 y54 z54 st54 hQ54
          subst l54 y54 z54
          obtain ⟨rfl, Nq54, eh54⟩ := hQ54
          have N54 := Fr.app N53 Nq54
          refine Ends.go st54 ?_
          show Ends _ _ _ _ (T54.setTop (mkF m 314 #[.val (.int p1), .val (.int p2), .val (.int p3), .val (.int p4), .val (.int p5), .val (.int (0 : Int32)), .val (.ref x_2), .val w5, .val w10, .val w15, .val (.ref x_19), .val (.int (1 : Int32))] [.null]))
          refine Ends.step (fun t k => XS.ifnonnullNo X54.here hx rfl (hb hby at_314) rfl k) ?_
          show Ends _ _ _ _ (T54.setTop (mkF m 317 #[.val (.int p1), .val (.int p2), .val (.int p3), .val (.int p4), .val (.int p5), .val (.int (0 : Int32)), .val (.ref x_2), .val w5, .val w10, .val w15, .val (.ref x_19), .val (.int (1 : Int32))] []))
          refine Ends.step (fun t k => XS.iconst X54.here hx rfl (hb hby at_317) k) ?_
          show Ends _ _ _ _ (T54.setTop (mkF m 318 #[.val (.int p1), .val (.int p2), .val (.int p3), .val (.int p4), .val (.int p5), .val (.int (0 : Int32)), .val (.ref x_2), .val w5, .val w10, .val w15, .val (.ref x_19), .val (.int (1 : Int32))] [(.int (1 : Int32))]))
          refine Ends.step (fun t k => XS.goto X54.here hx rfl (pc0 := 318) (pc' := 322) rfl (hb hby at_318) (by decide) (by decide) k) ?_
          show Ends _ _ _ _ (T54.setTop (mkF m 322 #[.val (.int p1), .val (.int p2), .val (.int p3), .val (.int p4), .val (.int p5), .val (.int (0 : Int32)), .val (.ref x_2), .val w5, .val w10, .val w15, .val (.ref x_19), .val (.int (1 : Int32))] [(.int (1 : Int32))]))
          refine Ends.step (fun t k => XS.istore X54.here hx rfl (hb hby at_322) rfl (l' := #[.val (.int p1), .val (.int p2), .val (.int p3), .val (.int p4), .val (.int p5), .val (.int (0 : Int32)), .val (.ref x_2), .val w5, .val w10, .val w15, .val (.ref x_19), .val (.int (1 : Int32))]) rfl k) ?_
          show Ends _ _ _ _ (T54.setTop (mkF m 324 #[.val (.int p1), .val (.int p2), .val (.int p3), .val (.int p4), .val (.int p5), .val (.int (0 : Int32)), .val (.ref x_2), .val w5, .val w10, .val w15, .val (.ref x_19), .val (.int (1 : Int32))] []))
          refine Ends.step (fun t k => XS.iload X54.here hx rfl (hb hby at_324) rfl k) ?_
          show Ends _ _ _ _ (T54.setTop (mkF m 326 #[.val (.int p1), .val (.int p2), .val (.int p3), .val (.int p4), .val (.int p5), .val (.int (0 : Int32)), .val (.ref x_2), .val w5, .val w10, .val w15, .val (.ref x_19), .val (.int (1 : Int32))] [(.int (1 : Int32))]))
          have CR55 := own_chrK CR17 K19
          have CR56 := own_chrK CR55 K22
          have CR57 := own_chrK CR56 K29
          have CR58 := own_chrK CR57 K34
          exact own_finIW X54 hS17 hx hlk hh (own_hEL hw) (Nat.le_trans hk17 (Nat.le_trans (Nat.le_trans (Nat.le_trans K19.1 K22.1) K29.1) K34.1)) CR58 hZ17 (t := .boolean) Bd.returns (by simp) rfl (hb hby at_326) eh54 ⟨rfl, N54, (((((((((Keep.refl h0 []).trans K2 all0).trans K7 all0).trans K12 all0).trans K17 all0).trans K19 all0).trans K22 all0).trans K29 all0).trans K34 all0)⟩ (by decide) (by decide)
        by_cases c59 : (p5 &&& (8 : Int32)) = (0 : Int32)
        · refine Ends.step (fun t k => XS.ifYes X12.here hx rfl (pc0 := 59) (pc' := 66) rfl (hb hby at_59) rfl ((if0 _ _).trans (teq c59).1) (by decide) (by decide) k) ?_
          show Ends _ _ _ _ (T12.setTop (mkF m 66 #[.val (.int p1), .val (.int p2), .val (.int p3), .val (.int p4), .val (.int p5), .val (.int (0 : Int32)), .val (.ref x_2), .val w5, .val w10, .unset, .unset, .unset] []))
          refine Ends.step (fun t k => XS.iloadN X12.here hx rfl (hb hby at_66) rfl k) ?_
          show Ends _ _ _ _ (T12.setTop (mkF m 67 #[.val (.int p1), .val (.int p2), .val (.int p3), .val (.int p4), .val (.int p5), .val (.int (0 : Int32)), .val (.ref x_2), .val w5, .val w10, .unset, .unset, .unset] [(.int p4)]))
          have F60 : Old Z n0 h12 := (((X00.keep K2 all0).keep K7 all0).keep K12 all0)
          obtain ⟨_, _, ⟨T61, L61, k61, n61⟩, -, Xs61, hs61, hg61, ⟨Lc61, hQ61, l61, y61, z61, CRc61⟩, st61⟩ := callSS X12 hx (y := (⟨"com/example/operatory/operatory/fhir/AlternativeOfTokenPinLaw", "str", "(I)Ljava/lang/String;"⟩ : MethodName)) hown12 (mvT hZ12 (hw _ (List.mem_of_getElem? (i := 0) rfl))) (mvT hZ12 (hw _ (List.mem_of_getElem? (i := 1) rfl))) (mvT hZ12 (hw _ (List.mem_of_getElem? (i := 2) rfl))) (mvT hZ12 (hw _ (List.mem_of_getElem? (i := 3) rfl))) (by decide) (backOfSH (s := s) (vm0 := vm12) (W := 0) (rmStr l Z a0 hw [] p4 h12 n0 (Nat.le_trans Z0 (Nat.le_trans (Nat.le_trans K2.1 K7.1) K12.1)) G1 O2 P5 eA SE XE FE F60 ) hZ12 (hw _ (List.mem_of_getElem? (i := 3) rfl)) (hw _ (List.mem_of_getElem? (i := 2) rfl)) (by decide) (by decide) (own_hEL hw) CR12.1) (g := (mkF m 67 #[.val (.int p1), .val (.int p2), .val (.int p3), .val (.int p4), .val (.int p5), .val (.int (0 : Int32)), .val (.ref x_2), .val w5, .val w10, .unset, .unset, .unset] [(.int p4)])) rfl (by rw [hml]; rfl) (argsL := [(.int p4)]) (rest := []) (lenOf pd_5 rfl) rfl (by show 2 * 0 + _ ≤ _; exact Nat.le_of_eq rfl) (hb hby at_67) (fun _ _ => ⟨rfl, e12, (by decide : 12 + 4 ≤ _), (by decide : 24 + 8 ≤ _)⟩)
          dsimp only [Pt.U, Pt.locs, Pt.cells, Pt.slots] at Xs61 hs61 hg61 l61 y61 z61 st61 hQ61 CRc61
          subst l61 y61 z61
          obtain ⟨X61, hS61, hZ61, hown61⟩ := rebS hS12 (Nat.le_trans hk12 (Nat.le_of_eq (congrArg Array.size (Eq.symm e12)))) Xs61 hs61 hg61 hZ12 hown12
          have CR61 := CR12.trans CRc61
          obtain ⟨x_61, rfl, Nq61, K61, f61_0, f61_1⟩ := hQ61
          have N61 := Fr.app N12 Nq61
          refine Ends.go st61 ?_
          exact J16 (.ref x_61) T61.vm T61 T61.heap _ (own_mono X61 (by decide) (by decide)) rfl N61 ((Keep.refl h12 []).trans K61 all0) _ hZ61 hown61 hS61 (Nat.le_refl _) CR61 rfl
        · refine Ends.step (fun t k => XS.ifNo X12.here hx rfl (hb hby at_59) rfl ((if0 _ _).trans (feq c59).1) k) ?_
          show Ends _ _ _ _ (T12.setTop (mkF m 62 #[.val (.int p1), .val (.int p2), .val (.int p3), .val (.int p4), .val (.int p5), .val (.int (0 : Int32)), .val (.ref x_2), .val w5, .val w10, .unset, .unset, .unset] []))
          refine Ends.step (fun t k => XS.aconstNull X12.here hx rfl (hb hby at_62) k) ?_
          show Ends _ _ _ _ (T12.setTop (mkF m 63 #[.val (.int p1), .val (.int p2), .val (.int p3), .val (.int p4), .val (.int p5), .val (.int (0 : Int32)), .val (.ref x_2), .val w5, .val w10, .unset, .unset, .unset] [.null]))
          refine Ends.step (fun t k => XS.goto X12.here hx rfl (pc0 := 63) (pc' := 70) rfl (hb hby at_63) (by decide) (by decide) k) ?_
          exact J16 .null vm12 T12 h12 _ (own_mono X12 (by decide) (by decide)) e12 N12 (Keep.refl h12 []) _ hZ12 hown12 hS12 hk12 CR12 rfl
      by_cases c62 : (p5 &&& (4 : Int32)) = (0 : Int32)
      · refine Ends.step (fun t k => XS.ifYes X7.here hx rfl (pc0 := 41) (pc' := 48) rfl (hb hby at_41) rfl ((if0 _ _).trans (teq c62).1) (by decide) (by decide) k) ?_
        show Ends _ _ _ _ (T7.setTop (mkF m 48 #[.val (.int p1), .val (.int p2), .val (.int p3), .val (.int p4), .val (.int p5), .val (.int (0 : Int32)), .val (.ref x_2), .val w5, .unset, .unset, .unset, .unset] []))
        refine Ends.step (fun t k => XS.iloadN X7.here hx rfl (hb hby at_48) rfl k) ?_
        show Ends _ _ _ _ (T7.setTop (mkF m 49 #[.val (.int p1), .val (.int p2), .val (.int p3), .val (.int p4), .val (.int p5), .val (.int (0 : Int32)), .val (.ref x_2), .val w5, .unset, .unset, .unset, .unset] [(.int p3)]))
        have F63 : Old Z n0 h7 := ((X00.keep K2 all0).keep K7 all0)
        obtain ⟨_, _, ⟨T64, L64, k64, n64⟩, -, Xs64, hs64, hg64, ⟨Lc64, hQ64, l64, y64, z64, CRc64⟩, st64⟩ := callSS X7 hx (y := (⟨"com/example/operatory/operatory/fhir/AlternativeOfTokenPinLaw", "str", "(I)Ljava/lang/String;"⟩ : MethodName)) hown7 (mvT hZ7 (hw _ (List.mem_of_getElem? (i := 0) rfl))) (mvT hZ7 (hw _ (List.mem_of_getElem? (i := 1) rfl))) (mvT hZ7 (hw _ (List.mem_of_getElem? (i := 2) rfl))) (mvT hZ7 (hw _ (List.mem_of_getElem? (i := 3) rfl))) (by decide) (backOfSH (s := s) (vm0 := vm7) (W := 0) (rmStr l Z a0 hw [] p3 h7 n0 (Nat.le_trans Z0 (Nat.le_trans K2.1 K7.1)) G1 O2 P5 eA SE XE FE F63 ) hZ7 (hw _ (List.mem_of_getElem? (i := 3) rfl)) (hw _ (List.mem_of_getElem? (i := 2) rfl)) (by decide) (by decide) (own_hEL hw) CR7.1) (g := (mkF m 49 #[.val (.int p1), .val (.int p2), .val (.int p3), .val (.int p4), .val (.int p5), .val (.int (0 : Int32)), .val (.ref x_2), .val w5, .unset, .unset, .unset, .unset] [(.int p3)])) rfl (by rw [hml]; rfl) (argsL := [(.int p3)]) (rest := []) (lenOf pd_5 rfl) rfl (by show 2 * 0 + _ ≤ _; exact Nat.le_of_eq rfl) (hb hby at_49) (fun _ _ => ⟨rfl, e7, (by decide : 8 + 4 ≤ _), (by decide : 16 + 8 ≤ _)⟩)
        dsimp only [Pt.U, Pt.locs, Pt.cells, Pt.slots] at Xs64 hs64 hg64 l64 y64 z64 st64 hQ64 CRc64
        subst l64 y64 z64
        obtain ⟨X64, hS64, hZ64, hown64⟩ := rebS hS7 (Nat.le_trans hk7 (Nat.le_of_eq (congrArg Array.size (Eq.symm e7)))) Xs64 hs64 hg64 hZ7 hown7
        have CR64 := CR7.trans CRc64
        obtain ⟨x_64, rfl, Nq64, K64, f64_0, f64_1⟩ := hQ64
        have N64 := Fr.app N7 Nq64
        refine Ends.go st64 ?_
        exact J11 (.ref x_64) T64.vm T64 T64.heap _ (own_mono X64 (by decide) (by decide)) rfl N64 ((Keep.refl h7 []).trans K64 all0) _ hZ64 hown64 hS64 (Nat.le_refl _) CR64 rfl
      · refine Ends.step (fun t k => XS.ifNo X7.here hx rfl (hb hby at_41) rfl ((if0 _ _).trans (feq c62).1) k) ?_
        show Ends _ _ _ _ (T7.setTop (mkF m 44 #[.val (.int p1), .val (.int p2), .val (.int p3), .val (.int p4), .val (.int p5), .val (.int (0 : Int32)), .val (.ref x_2), .val w5, .unset, .unset, .unset, .unset] []))
        refine Ends.step (fun t k => XS.aconstNull X7.here hx rfl (hb hby at_44) k) ?_
        show Ends _ _ _ _ (T7.setTop (mkF m 45 #[.val (.int p1), .val (.int p2), .val (.int p3), .val (.int p4), .val (.int p5), .val (.int (0 : Int32)), .val (.ref x_2), .val w5, .unset, .unset, .unset, .unset] [.null]))
        refine Ends.step (fun t k => XS.goto X7.here hx rfl (pc0 := 45) (pc' := 52) rfl (hb hby at_45) (by decide) (by decide) k) ?_
        exact J11 .null vm7 T7 h7 _ (own_mono X7 (by decide) (by decide)) e7 N7 (Keep.refl h7 []) _ hZ7 hown7 hS7 hk7 CR7 rfl
    by_cases c65 : (p5 &&& (2 : Int32)) = (0 : Int32)
    · refine Ends.step (fun t k => XS.ifYes X2.here hx rfl (pc0 := 24) (pc' := 31) rfl (hb hby at_24) rfl ((if0 _ _).trans (teq c65).1) (by decide) (by decide) k) ?_
      show Ends _ _ _ _ (T2.setTop (mkF m 31 #[.val (.int p1), .val (.int p2), .val (.int p3), .val (.int p4), .val (.int p5), .val (.int (0 : Int32)), .val (.ref x_2), .unset, .unset, .unset, .unset, .unset] []))
      refine Ends.step (fun t k => XS.iloadN X2.here hx rfl (hb hby at_31) rfl k) ?_
      show Ends _ _ _ _ (T2.setTop (mkF m 32 #[.val (.int p1), .val (.int p2), .val (.int p3), .val (.int p4), .val (.int p5), .val (.int (0 : Int32)), .val (.ref x_2), .unset, .unset, .unset, .unset, .unset] [(.int p2)]))
      have F66 : Old Z n0 T2.heap := (X00.keep K2 all0)
      obtain ⟨_, _, ⟨T67, L67, k67, n67⟩, -, Xs67, hs67, hg67, ⟨Lc67, hQ67, l67, y67, z67, CRc67⟩, st67⟩ := callSS X2 hx (y := (⟨"com/example/operatory/operatory/fhir/AlternativeOfTokenPinLaw", "str", "(I)Ljava/lang/String;"⟩ : MethodName)) hown2 (mvT hZ2 (hw _ (List.mem_of_getElem? (i := 0) rfl))) (mvT hZ2 (hw _ (List.mem_of_getElem? (i := 1) rfl))) (mvT hZ2 (hw _ (List.mem_of_getElem? (i := 2) rfl))) (mvT hZ2 (hw _ (List.mem_of_getElem? (i := 3) rfl))) (by decide) (backOfSH (s := s) (vm0 := T2.vm) (W := 0) (rmStr l Z a0 hw [] p2 T2.heap n0 (Nat.le_trans Z0 K2.1) G1 O2 P5 eA SE XE FE F66 ) hZ2 (hw _ (List.mem_of_getElem? (i := 3) rfl)) (hw _ (List.mem_of_getElem? (i := 2) rfl)) (by decide) (by decide) (own_hEL hw) CR2.1) (g := (mkF m 32 #[.val (.int p1), .val (.int p2), .val (.int p3), .val (.int p4), .val (.int p5), .val (.int (0 : Int32)), .val (.ref x_2), .unset, .unset, .unset, .unset, .unset] [(.int p2)])) rfl (by rw [hml]; rfl) (argsL := [(.int p2)]) (rest := []) (lenOf pd_5 rfl) rfl (by show 2 * 0 + _ ≤ _; exact Nat.le_of_eq rfl) (hb hby at_32) (fun _ _ => ⟨rfl, rfl, (by decide : 4 + 4 ≤ _), (by decide : 8 + 8 ≤ _)⟩)
      dsimp only [Pt.U, Pt.locs, Pt.cells, Pt.slots] at Xs67 hs67 hg67 l67 y67 z67 st67 hQ67 CRc67
      subst l67 y67 z67
      obtain ⟨X67, hS67, hZ67, hown67⟩ := rebS hS2 (Nat.le_trans (Nat.le_refl _) (Nat.le_of_eq (congrArg Array.size (Eq.symm rfl)))) Xs67 hs67 hg67 hZ2 hown2
      have CR67 := CR2.trans CRc67
      obtain ⟨x_67, rfl, Nq67, K67, f67_0, f67_1⟩ := hQ67
      have N67 := Fr.app N2 Nq67
      refine Ends.go st67 ?_
      exact J6 (.ref x_67) T67.vm T67 T67.heap _ (own_mono X67 (by decide) (by decide)) rfl N67 ((Keep.refl T2.heap []).trans K67 all0) _ hZ67 hown67 hS67 (Nat.le_refl _) CR67 rfl
    · refine Ends.step (fun t k => XS.ifNo X2.here hx rfl (hb hby at_24) rfl ((if0 _ _).trans (feq c65).1) k) ?_
      show Ends _ _ _ _ (T2.setTop (mkF m 27 #[.val (.int p1), .val (.int p2), .val (.int p3), .val (.int p4), .val (.int p5), .val (.int (0 : Int32)), .val (.ref x_2), .unset, .unset, .unset, .unset, .unset] []))
      refine Ends.step (fun t k => XS.aconstNull X2.here hx rfl (hb hby at_27) k) ?_
      show Ends _ _ _ _ (T2.setTop (mkF m 28 #[.val (.int p1), .val (.int p2), .val (.int p3), .val (.int p4), .val (.int p5), .val (.int (0 : Int32)), .val (.ref x_2), .unset, .unset, .unset, .unset, .unset] [.null]))
      refine Ends.step (fun t k => XS.goto X2.here hx rfl (pc0 := 28) (pc' := 35) rfl (hb hby at_28) (by decide) (by decide) k) ?_
      exact J6 .null T2.vm T2 T2.heap _ (own_mono X2 (by decide) (by decide)) rfl N2 (Keep.refl T2.heap []) _ hZ2 hown2 hS2 (Nat.le_refl _) CR2 rfl
  · refine Ends.step (fun t k => XS.ifNo X0.here hx rfl (hb hby at_4) rfl ((if0 _ _).trans (feq c1).1) k) ?_
    show Ends _ _ _ _ (s₁.setTop (mkF m 7 #[.val (.int p1), .val (.int p2), .val (.int p3), .val (.int p4), .val (.int p5), .unset, .unset, .unset, .unset, .unset, .unset, .unset] []))
    refine Ends.step (fun t k => XS.iconst X0.here hx rfl (hb hby at_7) k) ?_
    show Ends _ _ _ _ (s₁.setTop (mkF m 8 #[.val (.int p1), .val (.int p2), .val (.int p3), .val (.int p4), .val (.int p5), .unset, .unset, .unset, .unset, .unset, .unset, .unset] [(.int (1 : Int32))]))
    refine Ends.step (fun t k => XS.goto X0.here hx rfl (pc0 := 8) (pc' := 12) rfl (hb hby at_8) (by decide) (by decide) k) ?_
    show Ends _ _ _ _ (s₁.setTop (mkF m 12 #[.val (.int p1), .val (.int p2), .val (.int p3), .val (.int p4), .val (.int p5), .unset, .unset, .unset, .unset, .unset, .unset, .unset] [(.int (1 : Int32))]))
    refine Ends.step (fun t k => XS.istore X0.here hx rfl (hb hby at_12) rfl (l' := #[.val (.int p1), .val (.int p2), .val (.int p3), .val (.int p4), .val (.int p5), .val (.int (1 : Int32)), .unset, .unset, .unset, .unset, .unset, .unset]) rfl k) ?_
    show Ends _ _ _ _ (s₁.setTop (mkF m 14 #[.val (.int p1), .val (.int p2), .val (.int p3), .val (.int p4), .val (.int p5), .val (.int (1 : Int32)), .unset, .unset, .unset, .unset, .unset, .unset] []))
    refine Ends.step (fun t k => XS.iloadN X0.here hx rfl (hb hby at_14) rfl k) ?_
    show Ends _ _ _ _ (s₁.setTop (mkF m 15 #[.val (.int p1), .val (.int p2), .val (.int p3), .val (.int p4), .val (.int p5), .val (.int (1 : Int32)), .unset, .unset, .unset, .unset, .unset, .unset] [(.int p1)]))
    obtain ⟨_, _, ⟨T68, L68, k68, n68⟩, -, Xs68, hs68, hg68, ⟨Lc68, hQ68, l68, y68, z68, CRc68⟩, st68⟩ := callSS X0 hx (y := (⟨"com/example/operatory/operatory/fhir/AlternativeOfTokenPinLaw", "str", "(I)Ljava/lang/String;"⟩ : MethodName)) hown (mvT hZ (hw _ (List.mem_of_getElem? (i := 0) rfl))) (mvT hZ (hw _ (List.mem_of_getElem? (i := 1) rfl))) (mvT hZ (hw _ (List.mem_of_getElem? (i := 2) rfl))) (mvT hZ (hw _ (List.mem_of_getElem? (i := 3) rfl))) (by decide) (backOfSH (s := s) (vm0 := s.vm) (W := 0) (rmStr l Z a0 hw [] p1 h0 n0 Z0 G1 O2 P5 eA SE XE FE X00 ) hZ (hw _ (List.mem_of_getElem? (i := 3) rfl)) (hw _ (List.mem_of_getElem? (i := 2) rfl)) (by decide) (by decide) (own_hEL hw) CR0.1) (g := (mkF m 15 #[.val (.int p1), .val (.int p2), .val (.int p3), .val (.int p4), .val (.int p5), .val (.int (1 : Int32)), .unset, .unset, .unset, .unset, .unset, .unset] [(.int p1)])) rfl (by rw [hml]; rfl) (argsL := [(.int p1)]) (rest := []) (lenOf pd_5 rfl) rfl (by show 2 * 0 + _ ≤ _; exact Nat.le_of_eq rfl) (hb hby at_15) (fun _ _ => ⟨rfl, e0, (by decide : 0 + 4 ≤ _), (by decide : 0 + 8 ≤ _)⟩)
    dsimp only [Pt.U, Pt.locs, Pt.cells, Pt.slots] at Xs68 hs68 hg68 l68 y68 z68 st68 hQ68 CRc68
    subst l68 y68 z68
    obtain ⟨X68, hS68, hZ68, hown68⟩ := rebS hS0 (Nat.le_trans (Nat.zero_le _) (Nat.le_of_eq (congrArg Array.size (Eq.symm e0)))) Xs68 hs68 hg68 hZ hown
    have CR68 := CR0.trans CRc68
    obtain ⟨x_68, rfl, Nq68, K68, f68_0, f68_1⟩ := hQ68
    have N68 := Fr.app N0 Nq68
    refine Ends.go st68 ?_
    show Ends _ _ _ _ (T68.setTop (mkF m 18 #[.val (.int p1), .val (.int p2), .val (.int p3), .val (.int p4), .val (.int p5), .val (.int (1 : Int32)), .unset, .unset, .unset, .unset, .unset, .unset] [(.ref x_68)]))
    refine Ends.step (fun t k => XS.astore X68.here hx rfl (hb hby at_18) rfl rfl (l' := #[.val (.int p1), .val (.int p2), .val (.int p3), .val (.int p4), .val (.int p5), .val (.int (1 : Int32)), .val (.ref x_68), .unset, .unset, .unset, .unset, .unset]) rfl k) ?_
    show Ends _ _ _ _ (T68.setTop (mkF m 20 #[.val (.int p1), .val (.int p2), .val (.int p3), .val (.int p4), .val (.int p5), .val (.int (1 : Int32)), .val (.ref x_68), .unset, .unset, .unset, .unset, .unset] []))
    refine Ends.step (fun t k => XS.iload X68.here hx rfl (hb hby at_20) rfl k) ?_
    show Ends _ _ _ _ (T68.setTop (mkF m 22 #[.val (.int p1), .val (.int p2), .val (.int p3), .val (.int p4), .val (.int p5), .val (.int (1 : Int32)), .val (.ref x_68), .unset, .unset, .unset, .unset, .unset] [(.int p5)]))
    refine Ends.step (fun t k => XS.iconst X68.here hx rfl (hb hby at_22) k) ?_
    show Ends _ _ _ _ (T68.setTop (mkF m 23 #[.val (.int p1), .val (.int p2), .val (.int p3), .val (.int p4), .val (.int p5), .val (.int (1 : Int32)), .val (.ref x_68), .unset, .unset, .unset, .unset, .unset] [(.int (2 : Int32)), (.int p5)]))
    refine Ends.step (fun t k => XS.iand X68.here hx rfl (hb hby at_23) rfl k) ?_
    show Ends _ _ _ _ (T68.setTop (mkF m 24 #[.val (.int p1), .val (.int p2), .val (.int p3), .val (.int p4), .val (.int p5), .val (.int (1 : Int32)), .val (.ref x_68), .unset, .unset, .unset, .unset, .unset] [(.int (p5 &&& (2 : Int32)))]))
    have J72 : ∀ (w71 : Value) (vm73 : Vm) (T73 : State) (h73 : Heap) (L73 : List Loc) (X73 : Stand p l e room_1 (s.setVm vm73) m #[(.int p1), (.int p2), (.int p3), (.int p4), (.int p5)] below meth c T73 L73 8 16) (e73 : T73.heap = h73) (N73 : Fr n0 L73) (K73 : Keep T68.heap h73 []) (kk73 : Nat) (hZ73 : Z.Warmed39 (s.setVm vm73).vm) (hown73 : (s.setVm vm73).vm.findClass "com/example/operatory/operatory/fhir/AlternativeOfTokenPinLaw" = some m.cls) (hS73 : s.Since vm73 kk73) (hk73 : kk73 ≤ h73.size) (CR73 : CHr Z consts_1 s.vm h0 vm73 h73) (hw71 : Value.isRef w71 = true), Ends p.tables e below (fun o U' => ∃ v L, o = .returned v ∧ Qrm0 Z p1 p2 p3 p4 p5 h0 n0 v U'.heap L ∧ CHr Z consts_1 s.vm s.heap U'.vm U'.heap ∧ ReturnedEndW s o U' L 48 1216) (T73.setTop (mkF m 35 #[.val (.int p1), .val (.int p2), .val (.int p3), .val (.int p4), .val (.int p5), .val (.int (1 : Int32)), .val (.ref x_68), .unset, .unset, .unset, .unset, .unset] [w71])) := by
      intro w71 vm73 T73 h73 L73 X73 e73 N73 K73 kk73 hZ73 hown73 hS73 hk73 CR73 hw71
      show Ends _ _ _ _ (T73.setTop (mkF m 35 #[.val (.int p1), .val (.int p2), .val (.int p3), .val (.int p4), .val (.int p5), .val (.int (1 : Int32)), .val (.ref x_68), .unset, .unset, .unset, .unset, .unset] [w71]))
      refine Ends.step (fun t k => XS.astore X73.here hx rfl (hb hby at_35) rfl hw71 (l' := #[.val (.int p1), .val (.int p2), .val (.int p3), .val (.int p4), .val (.int p5), .val (.int (1 : Int32)), .val (.ref x_68), .val w71, .unset, .unset, .unset, .unset]) (XS.store1 (o := .unset) rfl One.u (XT.cat1 hw71)) k) ?_
      show Ends _ _ _ _ (T73.setTop (mkF m 37 #[.val (.int p1), .val (.int p2), .val (.int p3), .val (.int p4), .val (.int p5), .val (.int (1 : Int32)), .val (.ref x_68), .val w71, .unset, .unset, .unset, .unset] []))
      refine Ends.step (fun t k => XS.iload X73.here hx rfl (hb hby at_37) rfl k) ?_
      show Ends _ _ _ _ (T73.setTop (mkF m 39 #[.val (.int p1), .val (.int p2), .val (.int p3), .val (.int p4), .val (.int p5), .val (.int (1 : Int32)), .val (.ref x_68), .val w71, .unset, .unset, .unset, .unset] [(.int p5)]))
      refine Ends.step (fun t k => XS.iconst X73.here hx rfl (hb hby at_39) k) ?_
      show Ends _ _ _ _ (T73.setTop (mkF m 40 #[.val (.int p1), .val (.int p2), .val (.int p3), .val (.int p4), .val (.int p5), .val (.int (1 : Int32)), .val (.ref x_68), .val w71, .unset, .unset, .unset, .unset] [(.int (4 : Int32)), (.int p5)]))
      refine Ends.step (fun t k => XS.iand X73.here hx rfl (hb hby at_40) rfl k) ?_
      show Ends _ _ _ _ (T73.setTop (mkF m 41 #[.val (.int p1), .val (.int p2), .val (.int p3), .val (.int p4), .val (.int p5), .val (.int (1 : Int32)), .val (.ref x_68), .val w71, .unset, .unset, .unset, .unset] [(.int (p5 &&& (4 : Int32)))]))
      have J77 : ∀ (w76 : Value) (vm78 : Vm) (T78 : State) (h78 : Heap) (L78 : List Loc) (X78 : Stand p l e room_1 (s.setVm vm78) m #[(.int p1), (.int p2), (.int p3), (.int p4), (.int p5)] below meth c T78 L78 12 24) (e78 : T78.heap = h78) (N78 : Fr n0 L78) (K78 : Keep h73 h78 []) (kk78 : Nat) (hZ78 : Z.Warmed39 (s.setVm vm78).vm) (hown78 : (s.setVm vm78).vm.findClass "com/example/operatory/operatory/fhir/AlternativeOfTokenPinLaw" = some m.cls) (hS78 : s.Since vm78 kk78) (hk78 : kk78 ≤ h78.size) (CR78 : CHr Z consts_1 s.vm h0 vm78 h78) (hw76 : Value.isRef w76 = true), Ends p.tables e below (fun o U' => ∃ v L, o = .returned v ∧ Qrm0 Z p1 p2 p3 p4 p5 h0 n0 v U'.heap L ∧ CHr Z consts_1 s.vm s.heap U'.vm U'.heap ∧ ReturnedEndW s o U' L 48 1216) (T78.setTop (mkF m 52 #[.val (.int p1), .val (.int p2), .val (.int p3), .val (.int p4), .val (.int p5), .val (.int (1 : Int32)), .val (.ref x_68), .val w71, .unset, .unset, .unset, .unset] [w76])) := by
        intro w76 vm78 T78 h78 L78 X78 e78 N78 K78 kk78 hZ78 hown78 hS78 hk78 CR78 hw76
        show Ends _ _ _ _ (T78.setTop (mkF m 52 #[.val (.int p1), .val (.int p2), .val (.int p3), .val (.int p4), .val (.int p5), .val (.int (1 : Int32)), .val (.ref x_68), .val w71, .unset, .unset, .unset, .unset] [w76]))
        refine Ends.step (fun t k => XS.astore X78.here hx rfl (hb hby at_52) rfl hw76 (l' := #[.val (.int p1), .val (.int p2), .val (.int p3), .val (.int p4), .val (.int p5), .val (.int (1 : Int32)), .val (.ref x_68), .val w71, .val w76, .unset, .unset, .unset]) (XS.store1 (o := .unset) rfl One.u (XT.cat1 hw76)) k) ?_
        show Ends _ _ _ _ (T78.setTop (mkF m 54 #[.val (.int p1), .val (.int p2), .val (.int p3), .val (.int p4), .val (.int p5), .val (.int (1 : Int32)), .val (.ref x_68), .val w71, .val w76, .unset, .unset, .unset] []))
        refine Ends.step (fun t k => XS.iload X78.here hx rfl (hb hby at_54) rfl k) ?_
        show Ends _ _ _ _ (T78.setTop (mkF m 56 #[.val (.int p1), .val (.int p2), .val (.int p3), .val (.int p4), .val (.int p5), .val (.int (1 : Int32)), .val (.ref x_68), .val w71, .val w76, .unset, .unset, .unset] [(.int p5)]))
        refine Ends.step (fun t k => XS.bipush X78.here hx rfl (hb hby at_56) k) ?_
        show Ends _ _ _ _ (T78.setTop (mkF m 58 #[.val (.int p1), .val (.int p2), .val (.int p3), .val (.int p4), .val (.int p5), .val (.int (1 : Int32)), .val (.ref x_68), .val w71, .val w76, .unset, .unset, .unset] [(.int (8 : Int32)), (.int p5)]))
        refine Ends.step (fun t k => XS.iand X78.here hx rfl (hb hby at_58) rfl k) ?_
        show Ends _ _ _ _ (T78.setTop (mkF m 59 #[.val (.int p1), .val (.int p2), .val (.int p3), .val (.int p4), .val (.int p5), .val (.int (1 : Int32)), .val (.ref x_68), .val w71, .val w76, .unset, .unset, .unset] [(.int (p5 &&& (8 : Int32)))]))
        have J82 : ∀ (w81 : Value) (vm83 : Vm) (T83 : State) (h83 : Heap) (L83 : List Loc) (X83 : Stand p l e room_1 (s.setVm vm83) m #[(.int p1), (.int p2), (.int p3), (.int p4), (.int p5)] below meth c T83 L83 16 32) (e83 : T83.heap = h83) (N83 : Fr n0 L83) (K83 : Keep h78 h83 []) (kk83 : Nat) (hZ83 : Z.Warmed39 (s.setVm vm83).vm) (hown83 : (s.setVm vm83).vm.findClass "com/example/operatory/operatory/fhir/AlternativeOfTokenPinLaw" = some m.cls) (hS83 : s.Since vm83 kk83) (hk83 : kk83 ≤ h83.size) (CR83 : CHr Z consts_1 s.vm h0 vm83 h83) (hw81 : Value.isRef w81 = true), Ends p.tables e below (fun o U' => ∃ v L, o = .returned v ∧ Qrm0 Z p1 p2 p3 p4 p5 h0 n0 v U'.heap L ∧ CHr Z consts_1 s.vm s.heap U'.vm U'.heap ∧ ReturnedEndW s o U' L 48 1216) (T83.setTop (mkF m 70 #[.val (.int p1), .val (.int p2), .val (.int p3), .val (.int p4), .val (.int p5), .val (.int (1 : Int32)), .val (.ref x_68), .val w71, .val w76, .unset, .unset, .unset] [w81])) := by
          intro w81 vm83 T83 h83 L83 X83 e83 N83 K83 kk83 hZ83 hown83 hS83 hk83 CR83 hw81
          show Ends _ _ _ _ (T83.setTop (mkF m 70 #[.val (.int p1), .val (.int p2), .val (.int p3), .val (.int p4), .val (.int p5), .val (.int (1 : Int32)), .val (.ref x_68), .val w71, .val w76, .unset, .unset, .unset] [w81]))
          refine Ends.step (fun t k => XS.astore X83.here hx rfl (hb hby at_70) rfl hw81 (l' := #[.val (.int p1), .val (.int p2), .val (.int p3), .val (.int p4), .val (.int p5), .val (.int (1 : Int32)), .val (.ref x_68), .val w71, .val w76, .val w81, .unset, .unset]) (XS.store1 (o := .unset) rfl One.u (XT.cat1 hw81)) k) ?_
          show Ends _ _ _ _ (T83.setTop (mkF m 72 #[.val (.int p1), .val (.int p2), .val (.int p3), .val (.int p4), .val (.int p5), .val (.int (1 : Int32)), .val (.ref x_68), .val w71, .val w76, .val w81, .unset, .unset] []))
          refine Ends.step (fun t k => XS.aload X83.here hx rfl (hb hby at_72) rfl rfl k) ?_
          show Ends _ _ _ _ (T83.setTop (mkF m 74 #[.val (.int p1), .val (.int p2), .val (.int p3), .val (.int p4), .val (.int p5), .val (.int (1 : Int32)), .val (.ref x_68), .val w71, .val w76, .val w81, .unset, .unset] [(.ref x_68)]))
          refine Ends.step (fun t k => XS.aload X83.here hx rfl (hb hby at_74) rfl hw71 k) ?_
          show Ends _ _ _ _ (T83.setTop (mkF m 76 #[.val (.int p1), .val (.int p2), .val (.int p3), .val (.int p4), .val (.int p5), .val (.int (1 : Int32)), .val (.ref x_68), .val w71, .val w76, .val w81, .unset, .unset] [w71, (.ref x_68)]))
          refine Ends.step (fun t k => XS.iload X83.here hx rfl (hb hby at_76) rfl k) ?_
          show Ends _ _ _ _ (T83.setTop (mkF m 78 #[.val (.int p1), .val (.int p2), .val (.int p3), .val (.int p4), .val (.int p5), .val (.int (1 : Int32)), .val (.ref x_68), .val w71, .val w76, .val w81, .unset, .unset] [(.int (1 : Int32)), w71, (.ref x_68)]))
          refine Ends.step (fun t k => XS.aload X83.here hx rfl (hb hby at_78) rfl hw76 k) ?_
          show Ends _ _ _ _ (T83.setTop (mkF m 80 #[.val (.int p1), .val (.int p2), .val (.int p3), .val (.int p4), .val (.int p5), .val (.int (1 : Int32)), .val (.ref x_68), .val w71, .val w76, .val w81, .unset, .unset] [w76, (.int (1 : Int32)), w71, (.ref x_68)]))
          refine Ends.step (fun t k => XS.aload X83.here hx rfl (hb hby at_80) rfl hw81 k) ?_
          show Ends _ _ _ _ (T83.setTop (mkF m 82 #[.val (.int p1), .val (.int p2), .val (.int p3), .val (.int p4), .val (.int p5), .val (.int (1 : Int32)), .val (.ref x_68), .val w71, .val w76, .val w81, .unset, .unset] [w81, w76, (.int (1 : Int32)), w71, (.ref x_68)]))
          have F84 : Old Z n0 h83 := ((((X00.keep K68 all0).keep K73 all0).keep K78 all0).keep K83 all0)
          obtain ⟨_, _, ⟨T85, L85, k85, n85⟩, -, X85, ⟨Lc85, hQ85, l85, y85, z85⟩, st85⟩ := Jvm.LawKit.callS X83 hx (y := (⟨"com/example/operatory/operatory/fhir/SearchValue$Alternative", "ofToken", "(Ljava/lang/String;Ljava/lang/String;ZLjava/lang/String;Ljava/lang/String;)Lcom/example/operatory/operatory/fhir/SearchValue$Alternative;"⟩ : MethodName)) hown83 (mvT hZ83 (hw _ (List.mem_of_getElem? (i := 26) rfl))) (mvT hZ83 (hw _ (List.mem_of_getElem? (i := 27) rfl))) (mvT hZ83 (hw _ (List.mem_of_getElem? (i := 28) rfl))) (mvT hZ83 (hw _ (List.mem_of_getElem? (i := 29) rfl))) (by decide) (backOf (W := 0) (rmOf l Z a0 hw [] x_68 w71 (1 : Int32) w76 w81 h83 n0 (Nat.le_trans Z0 (Nat.le_trans (Nat.le_trans (Nat.le_trans K68.1 K73.1) K78.1) K83.1)) G1 O2 P5 eA SE XE FE F84 hw71 hw76 hw81) hZ83 (hw _ (List.mem_of_getElem? (i := 29) rfl)) (hw _ (List.mem_of_getElem? (i := 28) rfl)) (by decide) (by decide)) (g := (mkF m 82 #[.val (.int p1), .val (.int p2), .val (.int p3), .val (.int p4), .val (.int p5), .val (.int (1 : Int32)), .val (.ref x_68), .val w71, .val w76, .val w81, .unset, .unset] [w81, w76, (.int (1 : Int32)), w71, (.ref x_68)])) rfl (by rw [hml]; rfl) (argsL := [(.ref x_68), w71, (.int (1 : Int32)), w76, w81]) (rest := []) (lenOf pd_6 rfl) rfl (by show 2 * 0 + _ ≤ _; exact Nat.le_of_eq rfl) (hb hby at_82) (fun _ _ => ⟨rfl, e83, (by decide : 16 + 1 ≤ _), (by decide : 32 + 13 ≤ _)⟩)
          dsimp only [Pt.U, Pt.locs, Pt.cells, Pt.slots] at X85 l85 y85 z85 st85 hQ85
          subst l85 y85 z85
          obtain ⟨x_85, rfl, Nq85, K85, f85_0, f85_1, f85_2, f85_3, f85_4, f85_5, f85_6, f85_7, f85_8, f85_9, f85_10, f85_11, f85_12, f85_13, f85_14⟩ := hQ85
          have N85 := Fr.app N83 Nq85
          refine Ends.step st85 ?_
          show Ends _ _ _ _ (T85.setTop (mkF m 85 #[.val (.int p1), .val (.int p2), .val (.int p3), .val (.int p4), .val (.int p5), .val (.int (1 : Int32)), .val (.ref x_68), .val w71, .val w76, .val w81, .unset, .unset] [(.ref x_85)]))
          refine Ends.step (fun t k => XS.astore X85.here hx rfl (hb hby at_85) rfl rfl (l' := #[.val (.int p1), .val (.int p2), .val (.int p3), .val (.int p4), .val (.int p5), .val (.int (1 : Int32)), .val (.ref x_68), .val w71, .val w76, .val w81, .val (.ref x_85), .unset]) rfl k) ?_
          show Ends _ _ _ _ (T85.setTop (mkF m 87 #[.val (.int p1), .val (.int p2), .val (.int p3), .val (.int p4), .val (.int p5), .val (.int (1 : Int32)), .val (.ref x_68), .val w71, .val w76, .val w81, .val (.ref x_85), .unset] []))
          refine Ends.step (fun t k => XS.aload X85.here hx rfl (hb hby at_87) rfl rfl k) ?_
          show Ends _ _ _ _ (T85.setTop (mkF m 89 #[.val (.int p1), .val (.int p2), .val (.int p3), .val (.int p4), .val (.int p5), .val (.int (1 : Int32)), .val (.ref x_68), .val w71, .val w76, .val w81, .val (.ref x_85), .unset] [(.ref x_85)]))
          have F86 : Old Z n0 T85.heap := (F84.keep K85 all0)
          obtain ⟨cq87, kq87, q87a, q87b, q87c⟩ := isOf hZ83 rfl f85_1
          obtain ⟨_, _, ⟨T87, L87, k87, n87⟩, -, X87, ⟨Lc87, hQ87, l87, y87, z87⟩, st87⟩ := X85.virtualBack hx (y := (⟨"com/example/operatory/operatory/fhir/SearchValue$Alternative", "text", "()Ljava/lang/String;"⟩ : MethodName)) (z := (⟨"com/example/operatory/operatory/fhir/SearchValue$Alternative", "text", "()Ljava/lang/String;"⟩ : MethodName)) hown83 (mvT hZ83 (hw _ (List.mem_of_getElem? (i := 62) rfl))) (mvT hZ83 (hw _ (List.mem_of_getElem? (i := 63) rfl))) (notFace_of_selects (args := #[]) (mvT hZ83 (hw _ (List.mem_of_getElem? (i := 65) rfl)))) (mvT hZ83 (hw _ (List.mem_of_getElem? (i := 65) rfl))) (mvT hZ83 (hw _ (List.mem_of_getElem? (i := 64) rfl))) (by decide) (backOf (W := 0) (rmText l Z a0 hw [] x_85 (.ref x_68) T85.heap n0 (Nat.le_trans Z0 (Nat.le_trans (Nat.le_trans (Nat.le_trans (Nat.le_trans K68.1 K73.1) K78.1) K83.1) K85.1)) G1 O2 P5 eA SE XE FE F86 f85_2 rfl) hZ83 (hw _ (List.mem_of_getElem? (i := 66) rfl)) (hw _ (List.mem_of_getElem? (i := 28) rfl)) (by decide) (by decide)) q87a q87c (g := (mkF m 89 #[.val (.int p1), .val (.int p2), .val (.int p3), .val (.int p4), .val (.int p5), .val (.int (1 : Int32)), .val (.ref x_68), .val w71, .val w76, .val w81, .val (.ref x_85), .unset] [(.ref x_85)])) rfl (by rw [hml]; rfl) (Steps.refl _) (argsL := []) (rest := []) (lenOf pd_7 rfl) rfl (by show 2 * 0 + _ ≤ _; exact Nat.le_of_eq rfl) (hb hby at_89) (fun _ _ => ⟨rfl, rfl, (by decide : 17 + 0 ≤ _), (by decide : 45 + 0 ≤ _)⟩)
          dsimp only [Pt.U, Pt.locs, Pt.cells, Pt.slots] at X87 l87 y87 z87 st87 hQ87
          subst l87 y87 z87
          obtain ⟨rfl, Nq87, eh87⟩ := hQ87
          have N87 := Fr.app N85 Nq87
          refine Ends.go st87 ?_
          show Ends _ _ _ _ (T87.setTop (mkF m 92 #[.val (.int p1), .val (.int p2), .val (.int p3), .val (.int p4), .val (.int p5), .val (.int (1 : Int32)), .val (.ref x_68), .val w71, .val w76, .val w81, .val (.ref x_85), .unset] [(.ref x_68)]))
          refine Ends.step (fun t k => XS.aload X87.here hx rfl (hb hby at_92) rfl rfl k) ?_
          show Ends _ _ _ _ (T87.setTop (mkF m 94 #[.val (.int p1), .val (.int p2), .val (.int p3), .val (.int p4), .val (.int p5), .val (.int (1 : Int32)), .val (.ref x_68), .val w71, .val w76, .val w81, .val (.ref x_85), .unset] [(.ref x_68), (.ref x_68)]))
          refine Ends.step (fun t k => acmp X87 hx rfl (x := (.ref x_68)) (y := (.ref x_68)) rfl rfl (pc0 := 94) (pc' := 97) (same := true) rfl (hb hby at_94) rfl (decide_eq_true rfl) (by decide) (by decide) k) ?_
          show Ends _ _ _ _ (T87.setTop (mkF m 97 #[.val (.int p1), .val (.int p2), .val (.int p3), .val (.int p4), .val (.int p5), .val (.int (1 : Int32)), .val (.ref x_68), .val w71, .val w76, .val w81, .val (.ref x_85), .unset] []))
          refine Ends.step (fun t k => XS.iconst X87.here hx rfl (hb hby at_97) k) ?_
          show Ends _ _ _ _ (T87.setTop (mkF m 98 #[.val (.int p1), .val (.int p2), .val (.int p3), .val (.int p4), .val (.int p5), .val (.int (1 : Int32)), .val (.ref x_68), .val w71, .val w76, .val w81, .val (.ref x_85), .unset] [(.int (1 : Int32))]))
          refine Ends.step (fun t k => XS.goto X87.here hx rfl (pc0 := 98) (pc' := 102) rfl (hb hby at_98) (by decide) (by decide) k) ?_
          show Ends _ _ _ _ (T87.setTop (mkF m 102 #[.val (.int p1), .val (.int p2), .val (.int p3), .val (.int p4), .val (.int p5), .val (.int (1 : Int32)), .val (.ref x_68), .val w71, .val w76, .val w81, .val (.ref x_85), .unset] [(.int (1 : Int32))]))
          refine Ends.step (fun t k => XS.istore X87.here hx rfl (hb hby at_102) rfl (l' := #[.val (.int p1), .val (.int p2), .val (.int p3), .val (.int p4), .val (.int p5), .val (.int (1 : Int32)), .val (.ref x_68), .val w71, .val w76, .val w81, .val (.ref x_85), .val (.int (1 : Int32))]) rfl k) ?_
          show Ends _ _ _ _ (T87.setTop (mkF m 104 #[.val (.int p1), .val (.int p2), .val (.int p3), .val (.int p4), .val (.int p5), .val (.int (1 : Int32)), .val (.ref x_68), .val w71, .val w76, .val w81, .val (.ref x_85), .val (.int (1 : Int32))] []))
          refine Ends.step (fun t k => XS.iload X87.here hx rfl (hb hby at_104) rfl k) ?_
          show Ends _ _ _ _ (T87.setTop (mkF m 106 #[.val (.int p1), .val (.int p2), .val (.int p3), .val (.int p4), .val (.int p5), .val (.int (1 : Int32)), .val (.ref x_68), .val w71, .val w76, .val w81, .val (.ref x_85), .val (.int (1 : Int32))] [(.int (1 : Int32))]))
          refine Ends.step (fun t k => XS.ifNo X87.here hx rfl (hb hby at_106) rfl ((if0 _ _).trans (feq (by decide : ¬ ((1 : Int32) = (0 : Int32)))).1) k) ?_
          show Ends _ _ _ _ (T87.setTop (mkF m 109 #[.val (.int p1), .val (.int p2), .val (.int p3), .val (.int p4), .val (.int p5), .val (.int (1 : Int32)), .val (.ref x_68), .val w71, .val w76, .val w81, .val (.ref x_85), .val (.int (1 : Int32))] []))
          refine Ends.step (fun t k => XS.aload X87.here hx rfl (hb hby at_109) rfl rfl k) ?_
          show Ends _ _ _ _ (T87.setTop (mkF m 111 #[.val (.int p1), .val (.int p2), .val (.int p3), .val (.int p4), .val (.int p5), .val (.int (1 : Int32)), .val (.ref x_68), .val w71, .val w76, .val w81, .val (.ref x_85), .val (.int (1 : Int32))] [(.ref x_85)]))
          obtain ⟨cq88, kq88, q88a, q88b, q88c⟩ := isOf hZ83 eh87 f85_1
          obtain ⟨_, _, ⟨T88, L88, k88, n88⟩, -, X88, ⟨Lc88, hQ88, l88, y88, z88⟩, st88⟩ := X87.virtualBack hx (y := (⟨"com/example/operatory/operatory/fhir/SearchValue$Alternative", "system", "()Ljava/util/Optional;"⟩ : MethodName)) (z := (⟨"com/example/operatory/operatory/fhir/SearchValue$Alternative", "system", "()Ljava/util/Optional;"⟩ : MethodName)) hown83 (mvT hZ83 (hw _ (List.mem_of_getElem? (i := 67) rfl))) (mvT hZ83 (hw _ (List.mem_of_getElem? (i := 68) rfl))) (notFace_of_selects (args := #[]) (mvT hZ83 (hw _ (List.mem_of_getElem? (i := 70) rfl)))) (mvT hZ83 (hw _ (List.mem_of_getElem? (i := 70) rfl))) (mvT hZ83 (hw _ (List.mem_of_getElem? (i := 69) rfl))) (by decide) (backOf (W := 0) (rmGg_system l Z a0 hw [] x_85 w71 T85.heap n0 (Nat.le_trans Z0 (Nat.le_trans (Nat.le_trans (Nat.le_trans (Nat.le_trans K68.1 K73.1) K78.1) K83.1) K85.1)) G1 O2 P5 eA SE XE FE F86 f85_7 hw71) hZ83 (hw _ (List.mem_of_getElem? (i := 71) rfl)) (hw _ (List.mem_of_getElem? (i := 28) rfl)) (by decide) (by decide)) q88a q88c (g := (mkF m 111 #[.val (.int p1), .val (.int p2), .val (.int p3), .val (.int p4), .val (.int p5), .val (.int (1 : Int32)), .val (.ref x_68), .val w71, .val w76, .val w81, .val (.ref x_85), .val (.int (1 : Int32))] [(.ref x_85)])) rfl (by rw [hml]; rfl) (Steps.refl _) (argsL := []) (rest := []) (lenOf pd_8 rfl) rfl (by show 2 * 0 + _ ≤ _; exact Nat.le_of_eq rfl) (hb hby at_111) (fun _ _ => ⟨rfl, eh87, (by decide : 17 + 1 ≤ _), (by decide : 45 + 1 ≤ _)⟩)
          dsimp only [Pt.U, Pt.locs, Pt.cells, Pt.slots] at X88 l88 y88 z88 st88 hQ88
          subst l88 y88 z88
          obtain ⟨x_88, rfl, Nq88, K88, f88_0, f88_1⟩ := hQ88
          have N88 := Fr.app N87 Nq88
          refine Ends.go st88 ?_
          show Ends _ _ _ _ (T88.setTop (mkF m 114 #[.val (.int p1), .val (.int p2), .val (.int p3), .val (.int p4), .val (.int p5), .val (.int (1 : Int32)), .val (.ref x_68), .val w71, .val w76, .val w81, .val (.ref x_85), .val (.int (1 : Int32))] [(.ref x_88)]))
          refine Ends.step (fun t k => XS.aconstNull X88.here hx rfl (hb hby at_114) k) ?_
          show Ends _ _ _ _ (T88.setTop (mkF m 115 #[.val (.int p1), .val (.int p2), .val (.int p3), .val (.int p4), .val (.int p5), .val (.int (1 : Int32)), .val (.ref x_68), .val w71, .val w76, .val w81, .val (.ref x_85), .val (.int (1 : Int32))] [.null, (.ref x_88)]))
          have F89 : Old Z n0 T88.heap := (F86.keep K88 all0)
          obtain ⟨cq90, kq90, q90a, q90b, q90c⟩ := isOf hZ83 rfl f88_0
          obtain ⟨_, _, ⟨T90, L90, k90, n90⟩, -, X90, ⟨Lc90, hQ90, l90, y90, z90⟩, st90⟩ := X88.virtualBack hx (y := (⟨"java/util/Optional", "orElse", "(Ljava/lang/Object;)Ljava/lang/Object;"⟩ : MethodName)) (z := (⟨"java/util/Optional", "orElse", "(Ljava/lang/Object;)Ljava/lang/Object;"⟩ : MethodName)) hown83 (mvT hZ83 (hw _ (List.mem_of_getElem? (i := 85) rfl))) (mvT hZ83 (hw _ (List.mem_of_getElem? (i := 86) rfl))) (notFace_of_selects (args := #[]) (mvT hZ83 (hw _ (List.mem_of_getElem? (i := 88) rfl)))) (mvT hZ83 (hw _ (List.mem_of_getElem? (i := 88) rfl))) (mvT hZ83 (hw _ (List.mem_of_getElem? (i := 87) rfl))) (by decide) (backOf (W := 0) (rmOpElG l Z a0 hw [] x_88 w71 T88.heap n0 (Nat.le_trans Z0 (Nat.le_trans (Nat.le_trans (Nat.le_trans (Nat.le_trans (Nat.le_trans K68.1 K73.1) K78.1) K83.1) K85.1) K88.1)) G1 O2 P5 eA SE XE FE F89 f88_1 hw71) hZ83 (hw _ (List.mem_of_getElem? (i := 89) rfl)) (hw _ (List.mem_of_getElem? (i := 74) rfl)) (by decide) (by decide)) q90a q90c (g := (mkF m 115 #[.val (.int p1), .val (.int p2), .val (.int p3), .val (.int p4), .val (.int p5), .val (.int (1 : Int32)), .val (.ref x_68), .val w71, .val w76, .val w81, .val (.ref x_85), .val (.int (1 : Int32))] [.null, (.ref x_88)])) rfl (by rw [hml]; rfl) (Steps.refl _) (argsL := [.null]) (rest := []) (lenOf pd_9 rfl) rfl (by show 2 * 0 + _ ≤ _; exact Nat.le_of_eq rfl) (hb hby at_115) (fun _ _ => ⟨rfl, rfl, (by decide : 18 + 0 ≤ _), (by decide : 46 + 0 ≤ _)⟩)
          dsimp only [Pt.U, Pt.locs, Pt.cells, Pt.slots] at X90 l90 y90 z90 st90 hQ90
          subst l90 y90 z90
          obtain ⟨rfl, Nq90, eh90⟩ := hQ90
          have N90 := Fr.app N88 Nq90
          refine Ends.go st90 ?_
          show Ends _ _ _ _ (T90.setTop (mkF m 118 #[.val (.int p1), .val (.int p2), .val (.int p3), .val (.int p4), .val (.int p5), .val (.int (1 : Int32)), .val (.ref x_68), .val w71, .val w76, .val w81, .val (.ref x_85), .val (.int (1 : Int32))] [w71]))
          refine Ends.step (fun t k => XS.aload X90.here hx rfl (hb hby at_118) rfl hw71 k) ?_
          show Ends _ _ _ _ (T90.setTop (mkF m 120 #[.val (.int p1), .val (.int p2), .val (.int p3), .val (.int p4), .val (.int p5), .val (.int (1 : Int32)), .val (.ref x_68), .val w71, .val w76, .val w81, .val (.ref x_85), .val (.int (1 : Int32))] [w71, w71]))
          refine Ends.step (fun t k => acmp X90 hx rfl (x := w71) (y := w71) hw71 hw71 (pc0 := 120) (pc' := 123) (same := true) rfl (hb hby at_120) rfl (decide_eq_true rfl) (by decide) (by decide) k) ?_
          show Ends _ _ _ _ (T90.setTop (mkF m 123 #[.val (.int p1), .val (.int p2), .val (.int p3), .val (.int p4), .val (.int p5), .val (.int (1 : Int32)), .val (.ref x_68), .val w71, .val w76, .val w81, .val (.ref x_85), .val (.int (1 : Int32))] []))
          refine Ends.step (fun t k => XS.iconst X90.here hx rfl (hb hby at_123) k) ?_
          show Ends _ _ _ _ (T90.setTop (mkF m 124 #[.val (.int p1), .val (.int p2), .val (.int p3), .val (.int p4), .val (.int p5), .val (.int (1 : Int32)), .val (.ref x_68), .val w71, .val w76, .val w81, .val (.ref x_85), .val (.int (1 : Int32))] [(.int (1 : Int32))]))
          refine Ends.step (fun t k => XS.goto X90.here hx rfl (pc0 := 124) (pc' := 128) rfl (hb hby at_124) (by decide) (by decide) k) ?_
          show Ends _ _ _ _ (T90.setTop (mkF m 128 #[.val (.int p1), .val (.int p2), .val (.int p3), .val (.int p4), .val (.int p5), .val (.int (1 : Int32)), .val (.ref x_68), .val w71, .val w76, .val w81, .val (.ref x_85), .val (.int (1 : Int32))] [(.int (1 : Int32))]))
          refine Ends.step (fun t k => XS.istore X90.here hx rfl (hb hby at_128) rfl (l' := #[.val (.int p1), .val (.int p2), .val (.int p3), .val (.int p4), .val (.int p5), .val (.int (1 : Int32)), .val (.ref x_68), .val w71, .val w76, .val w81, .val (.ref x_85), .val (.int (1 : Int32))]) rfl k) ?_
          show Ends _ _ _ _ (T90.setTop (mkF m 130 #[.val (.int p1), .val (.int p2), .val (.int p3), .val (.int p4), .val (.int p5), .val (.int (1 : Int32)), .val (.ref x_68), .val w71, .val w76, .val w81, .val (.ref x_85), .val (.int (1 : Int32))] []))
          refine Ends.step (fun t k => XS.iload X90.here hx rfl (hb hby at_130) rfl k) ?_
          show Ends _ _ _ _ (T90.setTop (mkF m 132 #[.val (.int p1), .val (.int p2), .val (.int p3), .val (.int p4), .val (.int p5), .val (.int (1 : Int32)), .val (.ref x_68), .val w71, .val w76, .val w81, .val (.ref x_85), .val (.int (1 : Int32))] [(.int (1 : Int32))]))
          refine Ends.step (fun t k => XS.ifNo X90.here hx rfl (hb hby at_132) rfl ((if0 _ _).trans (feq (by decide : ¬ ((1 : Int32) = (0 : Int32)))).1) k) ?_
          show Ends _ _ _ _ (T90.setTop (mkF m 135 #[.val (.int p1), .val (.int p2), .val (.int p3), .val (.int p4), .val (.int p5), .val (.int (1 : Int32)), .val (.ref x_68), .val w71, .val w76, .val w81, .val (.ref x_85), .val (.int (1 : Int32))] []))
          refine Ends.step (fun t k => XS.aload X90.here hx rfl (hb hby at_135) rfl rfl k) ?_
          show Ends _ _ _ _ (T90.setTop (mkF m 137 #[.val (.int p1), .val (.int p2), .val (.int p3), .val (.int p4), .val (.int p5), .val (.int (1 : Int32)), .val (.ref x_68), .val w71, .val w76, .val w81, .val (.ref x_85), .val (.int (1 : Int32))] [(.ref x_85)]))
          have F91 : Exa Z T88.heap x_85 "com/example/operatory/operatory/fhir/SearchValue$Alternative" := (f85_1.keep K88)
          have F92 : Fld Z T88.heap x_85 "com/example/operatory/operatory/fhir/SearchValue$Alternative" "noSystem" "Z" (.int (1 : Int32)) := (f85_8.keep K88 nin0)
          obtain ⟨cq93, kq93, q93a, q93b, q93c⟩ := isOf hZ83 eh90 F91
          obtain ⟨_, _, ⟨T93, L93, k93, n93⟩, -, X93, ⟨Lc93, hQ93, l93, y93, z93⟩, st93⟩ := X90.virtualBack hx (y := (⟨"com/example/operatory/operatory/fhir/SearchValue$Alternative", "noSystem", "()Z"⟩ : MethodName)) (z := (⟨"com/example/operatory/operatory/fhir/SearchValue$Alternative", "noSystem", "()Z"⟩ : MethodName)) hown83 (mvT hZ83 (hw _ (List.mem_of_getElem? (i := 90) rfl))) (mvT hZ83 (hw _ (List.mem_of_getElem? (i := 91) rfl))) (notFace_of_selects (args := #[]) (mvT hZ83 (hw _ (List.mem_of_getElem? (i := 93) rfl)))) (mvT hZ83 (hw _ (List.mem_of_getElem? (i := 93) rfl))) (mvT hZ83 (hw _ (List.mem_of_getElem? (i := 92) rfl))) (by decide) (backOf (W := 0) (rmNs1 l Z a0 hw [] x_85 T88.heap n0 (Nat.le_trans Z0 (Nat.le_trans (Nat.le_trans (Nat.le_trans (Nat.le_trans (Nat.le_trans K68.1 K73.1) K78.1) K83.1) K85.1) K88.1)) G1 O2 P5 eA SE XE FE F89 F92) hZ83 (hw _ (List.mem_of_getElem? (i := 94) rfl)) (hw _ (List.mem_of_getElem? (i := 28) rfl)) (by decide) (by decide)) q93a q93c (g := (mkF m 137 #[.val (.int p1), .val (.int p2), .val (.int p3), .val (.int p4), .val (.int p5), .val (.int (1 : Int32)), .val (.ref x_68), .val w71, .val w76, .val w81, .val (.ref x_85), .val (.int (1 : Int32))] [(.ref x_85)])) rfl (by rw [hml]; rfl) (Steps.refl _) (argsL := []) (rest := []) (lenOf pd_10 rfl) rfl (by show 2 * 0 + _ ≤ _; exact Nat.le_of_eq rfl) (hb hby at_137) (fun _ _ => ⟨rfl, eh90, (by decide : 18 + 0 ≤ _), (by decide : 46 + 0 ≤ _)⟩)
          dsimp only [Pt.U, Pt.locs, Pt.cells, Pt.slots] at X93 l93 y93 z93 st93 hQ93
          subst l93 y93 z93
          obtain ⟨rfl, Nq93, eh93⟩ := hQ93
          have N93 := Fr.app N90 Nq93
          refine Ends.go st93 ?_
          show Ends _ _ _ _ (T93.setTop (mkF m 140 #[.val (.int p1), .val (.int p2), .val (.int p3), .val (.int p4), .val (.int p5), .val (.int (1 : Int32)), .val (.ref x_68), .val w71, .val w76, .val w81, .val (.ref x_85), .val (.int (1 : Int32))] [(.int (1 : Int32))]))
          refine Ends.step (fun t k => XS.iload X93.here hx rfl (hb hby at_140) rfl k) ?_
          show Ends _ _ _ _ (T93.setTop (mkF m 142 #[.val (.int p1), .val (.int p2), .val (.int p3), .val (.int p4), .val (.int p5), .val (.int (1 : Int32)), .val (.ref x_68), .val w71, .val w76, .val w81, .val (.ref x_85), .val (.int (1 : Int32))] [(.int (1 : Int32)), (.int (1 : Int32))]))
          refine Ends.step (fun t k => XS.icmpNo X93.here hx rfl (hb hby at_142) rfl (teq (by decide : ((1 : Int32) = (1 : Int32)))).2 k) ?_
          show Ends _ _ _ _ (T93.setTop (mkF m 145 #[.val (.int p1), .val (.int p2), .val (.int p3), .val (.int p4), .val (.int p5), .val (.int (1 : Int32)), .val (.ref x_68), .val w71, .val w76, .val w81, .val (.ref x_85), .val (.int (1 : Int32))] []))
          refine Ends.step (fun t k => XS.iconst X93.here hx rfl (hb hby at_145) k) ?_
          show Ends _ _ _ _ (T93.setTop (mkF m 146 #[.val (.int p1), .val (.int p2), .val (.int p3), .val (.int p4), .val (.int p5), .val (.int (1 : Int32)), .val (.ref x_68), .val w71, .val w76, .val w81, .val (.ref x_85), .val (.int (1 : Int32))] [(.int (1 : Int32))]))
          refine Ends.step (fun t k => XS.goto X93.here hx rfl (pc0 := 146) (pc' := 150) rfl (hb hby at_146) (by decide) (by decide) k) ?_
          show Ends _ _ _ _ (T93.setTop (mkF m 150 #[.val (.int p1), .val (.int p2), .val (.int p3), .val (.int p4), .val (.int p5), .val (.int (1 : Int32)), .val (.ref x_68), .val w71, .val w76, .val w81, .val (.ref x_85), .val (.int (1 : Int32))] [(.int (1 : Int32))]))
          refine Ends.step (fun t k => XS.istore X93.here hx rfl (hb hby at_150) rfl (l' := #[.val (.int p1), .val (.int p2), .val (.int p3), .val (.int p4), .val (.int p5), .val (.int (1 : Int32)), .val (.ref x_68), .val w71, .val w76, .val w81, .val (.ref x_85), .val (.int (1 : Int32))]) rfl k) ?_
          show Ends _ _ _ _ (T93.setTop (mkF m 152 #[.val (.int p1), .val (.int p2), .val (.int p3), .val (.int p4), .val (.int p5), .val (.int (1 : Int32)), .val (.ref x_68), .val w71, .val w76, .val w81, .val (.ref x_85), .val (.int (1 : Int32))] []))
          refine Ends.step (fun t k => XS.iload X93.here hx rfl (hb hby at_152) rfl k) ?_
          show Ends _ _ _ _ (T93.setTop (mkF m 154 #[.val (.int p1), .val (.int p2), .val (.int p3), .val (.int p4), .val (.int p5), .val (.int (1 : Int32)), .val (.ref x_68), .val w71, .val w76, .val w81, .val (.ref x_85), .val (.int (1 : Int32))] [(.int (1 : Int32))]))
          refine Ends.step (fun t k => XS.ifNo X93.here hx rfl (hb hby at_154) rfl ((if0 _ _).trans (feq (by decide : ¬ ((1 : Int32) = (0 : Int32)))).1) k) ?_
          show Ends _ _ _ _ (T93.setTop (mkF m 157 #[.val (.int p1), .val (.int p2), .val (.int p3), .val (.int p4), .val (.int p5), .val (.int (1 : Int32)), .val (.ref x_68), .val w71, .val w76, .val w81, .val (.ref x_85), .val (.int (1 : Int32))] []))
          refine Ends.step (fun t k => XS.aload X93.here hx rfl (hb hby at_157) rfl rfl k) ?_
          show Ends _ _ _ _ (T93.setTop (mkF m 159 #[.val (.int p1), .val (.int p2), .val (.int p3), .val (.int p4), .val (.int p5), .val (.int (1 : Int32)), .val (.ref x_68), .val w71, .val w76, .val w81, .val (.ref x_85), .val (.int (1 : Int32))] [(.ref x_85)]))
          have F94 : Fld Z T88.heap x_85 "com/example/operatory/operatory/fhir/SearchValue$Alternative" "code" "Ljava/lang/String;" w76 := (f85_9.keep K88 nin0)
          obtain ⟨cq95, kq95, q95a, q95b, q95c⟩ := isOf hZ83 eh93 F91
          obtain ⟨_, _, ⟨T95, L95, k95, n95⟩, -, X95, ⟨Lc95, hQ95, l95, y95, z95⟩, st95⟩ := X93.virtualBack hx (y := (⟨"com/example/operatory/operatory/fhir/SearchValue$Alternative", "code", "()Ljava/util/Optional;"⟩ : MethodName)) (z := (⟨"com/example/operatory/operatory/fhir/SearchValue$Alternative", "code", "()Ljava/util/Optional;"⟩ : MethodName)) hown83 (mvT hZ83 (hw _ (List.mem_of_getElem? (i := 95) rfl))) (mvT hZ83 (hw _ (List.mem_of_getElem? (i := 96) rfl))) (notFace_of_selects (args := #[]) (mvT hZ83 (hw _ (List.mem_of_getElem? (i := 98) rfl)))) (mvT hZ83 (hw _ (List.mem_of_getElem? (i := 98) rfl))) (mvT hZ83 (hw _ (List.mem_of_getElem? (i := 97) rfl))) (by decide) (backOf (W := 0) (rmGg_code l Z a0 hw [] x_85 w76 T88.heap n0 (Nat.le_trans Z0 (Nat.le_trans (Nat.le_trans (Nat.le_trans (Nat.le_trans (Nat.le_trans K68.1 K73.1) K78.1) K83.1) K85.1) K88.1)) G1 O2 P5 eA SE XE FE F89 F94 hw76) hZ83 (hw _ (List.mem_of_getElem? (i := 99) rfl)) (hw _ (List.mem_of_getElem? (i := 28) rfl)) (by decide) (by decide)) q95a q95c (g := (mkF m 159 #[.val (.int p1), .val (.int p2), .val (.int p3), .val (.int p4), .val (.int p5), .val (.int (1 : Int32)), .val (.ref x_68), .val w71, .val w76, .val w81, .val (.ref x_85), .val (.int (1 : Int32))] [(.ref x_85)])) rfl (by rw [hml]; rfl) (Steps.refl _) (argsL := []) (rest := []) (lenOf pd_8 rfl) rfl (by show 2 * 0 + _ ≤ _; exact Nat.le_of_eq rfl) (hb hby at_159) (fun _ _ => ⟨rfl, eh93, (by decide : 18 + 1 ≤ _), (by decide : 46 + 1 ≤ _)⟩)
          dsimp only [Pt.U, Pt.locs, Pt.cells, Pt.slots] at X95 l95 y95 z95 st95 hQ95
          subst l95 y95 z95
          obtain ⟨x_95, rfl, Nq95, K95, f95_0, f95_1⟩ := hQ95
          have N95 := Fr.app N93 Nq95
          refine Ends.go st95 ?_
          show Ends _ _ _ _ (T95.setTop (mkF m 162 #[.val (.int p1), .val (.int p2), .val (.int p3), .val (.int p4), .val (.int p5), .val (.int (1 : Int32)), .val (.ref x_68), .val w71, .val w76, .val w81, .val (.ref x_85), .val (.int (1 : Int32))] [(.ref x_95)]))
          refine Ends.step (fun t k => XS.aconstNull X95.here hx rfl (hb hby at_162) k) ?_
          show Ends _ _ _ _ (T95.setTop (mkF m 163 #[.val (.int p1), .val (.int p2), .val (.int p3), .val (.int p4), .val (.int p5), .val (.int (1 : Int32)), .val (.ref x_68), .val w71, .val w76, .val w81, .val (.ref x_85), .val (.int (1 : Int32))] [.null, (.ref x_95)]))
          have F96 : Old Z n0 T95.heap := (F89.keep K95 all0)
          obtain ⟨cq97, kq97, q97a, q97b, q97c⟩ := isOf hZ83 rfl f95_0
          obtain ⟨_, _, ⟨T97, L97, k97, n97⟩, -, X97, ⟨Lc97, hQ97, l97, y97, z97⟩, st97⟩ := X95.virtualBack hx (y := (⟨"java/util/Optional", "orElse", "(Ljava/lang/Object;)Ljava/lang/Object;"⟩ : MethodName)) (z := (⟨"java/util/Optional", "orElse", "(Ljava/lang/Object;)Ljava/lang/Object;"⟩ : MethodName)) hown83 (mvT hZ83 (hw _ (List.mem_of_getElem? (i := 85) rfl))) (mvT hZ83 (hw _ (List.mem_of_getElem? (i := 86) rfl))) (notFace_of_selects (args := #[]) (mvT hZ83 (hw _ (List.mem_of_getElem? (i := 88) rfl)))) (mvT hZ83 (hw _ (List.mem_of_getElem? (i := 88) rfl))) (mvT hZ83 (hw _ (List.mem_of_getElem? (i := 87) rfl))) (by decide) (backOf (W := 0) (rmOpElG l Z a0 hw [] x_95 w76 T95.heap n0 (Nat.le_trans Z0 (Nat.le_trans (Nat.le_trans (Nat.le_trans (Nat.le_trans (Nat.le_trans (Nat.le_trans K68.1 K73.1) K78.1) K83.1) K85.1) K88.1) K95.1)) G1 O2 P5 eA SE XE FE F96 f95_1 hw76) hZ83 (hw _ (List.mem_of_getElem? (i := 89) rfl)) (hw _ (List.mem_of_getElem? (i := 74) rfl)) (by decide) (by decide)) q97a q97c (g := (mkF m 163 #[.val (.int p1), .val (.int p2), .val (.int p3), .val (.int p4), .val (.int p5), .val (.int (1 : Int32)), .val (.ref x_68), .val w71, .val w76, .val w81, .val (.ref x_85), .val (.int (1 : Int32))] [.null, (.ref x_95)])) rfl (by rw [hml]; rfl) (Steps.refl _) (argsL := [.null]) (rest := []) (lenOf pd_9 rfl) rfl (by show 2 * 0 + _ ≤ _; exact Nat.le_of_eq rfl) (hb hby at_163) (fun _ _ => ⟨rfl, rfl, (by decide : 19 + 0 ≤ _), (by decide : 47 + 0 ≤ _)⟩)
          dsimp only [Pt.U, Pt.locs, Pt.cells, Pt.slots] at X97 l97 y97 z97 st97 hQ97
          subst l97 y97 z97
          obtain ⟨rfl, Nq97, eh97⟩ := hQ97
          have N97 := Fr.app N95 Nq97
          refine Ends.go st97 ?_
          show Ends _ _ _ _ (T97.setTop (mkF m 166 #[.val (.int p1), .val (.int p2), .val (.int p3), .val (.int p4), .val (.int p5), .val (.int (1 : Int32)), .val (.ref x_68), .val w71, .val w76, .val w81, .val (.ref x_85), .val (.int (1 : Int32))] [w76]))
          refine Ends.step (fun t k => XS.aload X97.here hx rfl (hb hby at_166) rfl hw76 k) ?_
          show Ends _ _ _ _ (T97.setTop (mkF m 168 #[.val (.int p1), .val (.int p2), .val (.int p3), .val (.int p4), .val (.int p5), .val (.int (1 : Int32)), .val (.ref x_68), .val w71, .val w76, .val w81, .val (.ref x_85), .val (.int (1 : Int32))] [w76, w76]))
          refine Ends.step (fun t k => acmp X97 hx rfl (x := w76) (y := w76) hw76 hw76 (pc0 := 168) (pc' := 171) (same := true) rfl (hb hby at_168) rfl (decide_eq_true rfl) (by decide) (by decide) k) ?_
          show Ends _ _ _ _ (T97.setTop (mkF m 171 #[.val (.int p1), .val (.int p2), .val (.int p3), .val (.int p4), .val (.int p5), .val (.int (1 : Int32)), .val (.ref x_68), .val w71, .val w76, .val w81, .val (.ref x_85), .val (.int (1 : Int32))] []))
          refine Ends.step (fun t k => XS.iconst X97.here hx rfl (hb hby at_171) k) ?_
          show Ends _ _ _ _ (T97.setTop (mkF m 172 #[.val (.int p1), .val (.int p2), .val (.int p3), .val (.int p4), .val (.int p5), .val (.int (1 : Int32)), .val (.ref x_68), .val w71, .val w76, .val w81, .val (.ref x_85), .val (.int (1 : Int32))] [(.int (1 : Int32))]))
          refine Ends.step (fun t k => XS.goto X97.here hx rfl (pc0 := 172) (pc' := 176) rfl (hb hby at_172) (by decide) (by decide) k) ?_
          show Ends _ _ _ _ (T97.setTop (mkF m 176 #[.val (.int p1), .val (.int p2), .val (.int p3), .val (.int p4), .val (.int p5), .val (.int (1 : Int32)), .val (.ref x_68), .val w71, .val w76, .val w81, .val (.ref x_85), .val (.int (1 : Int32))] [(.int (1 : Int32))]))
          refine Ends.step (fun t k => XS.istore X97.here hx rfl (hb hby at_176) rfl (l' := #[.val (.int p1), .val (.int p2), .val (.int p3), .val (.int p4), .val (.int p5), .val (.int (1 : Int32)), .val (.ref x_68), .val w71, .val w76, .val w81, .val (.ref x_85), .val (.int (1 : Int32))]) rfl k) ?_
          show Ends _ _ _ _ (T97.setTop (mkF m 178 #[.val (.int p1), .val (.int p2), .val (.int p3), .val (.int p4), .val (.int p5), .val (.int (1 : Int32)), .val (.ref x_68), .val w71, .val w76, .val w81, .val (.ref x_85), .val (.int (1 : Int32))] []))
          refine Ends.step (fun t k => XS.iload X97.here hx rfl (hb hby at_178) rfl k) ?_
          show Ends _ _ _ _ (T97.setTop (mkF m 180 #[.val (.int p1), .val (.int p2), .val (.int p3), .val (.int p4), .val (.int p5), .val (.int (1 : Int32)), .val (.ref x_68), .val w71, .val w76, .val w81, .val (.ref x_85), .val (.int (1 : Int32))] [(.int (1 : Int32))]))
          refine Ends.step (fun t k => XS.ifNo X97.here hx rfl (hb hby at_180) rfl ((if0 _ _).trans (feq (by decide : ¬ ((1 : Int32) = (0 : Int32)))).1) k) ?_
          show Ends _ _ _ _ (T97.setTop (mkF m 183 #[.val (.int p1), .val (.int p2), .val (.int p3), .val (.int p4), .val (.int p5), .val (.int (1 : Int32)), .val (.ref x_68), .val w71, .val w76, .val w81, .val (.ref x_85), .val (.int (1 : Int32))] []))
          refine Ends.step (fun t k => XS.aload X97.here hx rfl (hb hby at_183) rfl rfl k) ?_
          show Ends _ _ _ _ (T97.setTop (mkF m 185 #[.val (.int p1), .val (.int p2), .val (.int p3), .val (.int p4), .val (.int p5), .val (.int (1 : Int32)), .val (.ref x_68), .val w71, .val w76, .val w81, .val (.ref x_85), .val (.int (1 : Int32))] [(.ref x_85)]))
          have F98 : Exa Z T95.heap x_85 "com/example/operatory/operatory/fhir/SearchValue$Alternative" := (F91.keep K95)
          have F99 : Fld Z T95.heap x_85 "com/example/operatory/operatory/fhir/SearchValue$Alternative" "value" "Ljava/lang/String;" w81 := ((f85_10.keep K88 nin0).keep K95 nin0)
          obtain ⟨cq100, kq100, q100a, q100b, q100c⟩ := isOf hZ83 eh97 F98
          obtain ⟨_, _, ⟨T100, L100, k100, n100⟩, -, X100, ⟨Lc100, hQ100, l100, y100, z100⟩, st100⟩ := X97.virtualBack hx (y := (⟨"com/example/operatory/operatory/fhir/SearchValue$Alternative", "value", "()Ljava/util/Optional;"⟩ : MethodName)) (z := (⟨"com/example/operatory/operatory/fhir/SearchValue$Alternative", "value", "()Ljava/util/Optional;"⟩ : MethodName)) hown83 (mvT hZ83 (hw _ (List.mem_of_getElem? (i := 100) rfl))) (mvT hZ83 (hw _ (List.mem_of_getElem? (i := 101) rfl))) (notFace_of_selects (args := #[]) (mvT hZ83 (hw _ (List.mem_of_getElem? (i := 103) rfl)))) (mvT hZ83 (hw _ (List.mem_of_getElem? (i := 103) rfl))) (mvT hZ83 (hw _ (List.mem_of_getElem? (i := 102) rfl))) (by decide) (backOf (W := 0) (rmGg_value l Z a0 hw [] x_85 w81 T95.heap n0 (Nat.le_trans Z0 (Nat.le_trans (Nat.le_trans (Nat.le_trans (Nat.le_trans (Nat.le_trans (Nat.le_trans K68.1 K73.1) K78.1) K83.1) K85.1) K88.1) K95.1)) G1 O2 P5 eA SE XE FE F96 F99 hw81) hZ83 (hw _ (List.mem_of_getElem? (i := 104) rfl)) (hw _ (List.mem_of_getElem? (i := 28) rfl)) (by decide) (by decide)) q100a q100c (g := (mkF m 185 #[.val (.int p1), .val (.int p2), .val (.int p3), .val (.int p4), .val (.int p5), .val (.int (1 : Int32)), .val (.ref x_68), .val w71, .val w76, .val w81, .val (.ref x_85), .val (.int (1 : Int32))] [(.ref x_85)])) rfl (by rw [hml]; rfl) (Steps.refl _) (argsL := []) (rest := []) (lenOf pd_8 rfl) rfl (by show 2 * 0 + _ ≤ _; exact Nat.le_of_eq rfl) (hb hby at_185) (fun _ _ => ⟨rfl, eh97, (by decide : 19 + 1 ≤ _), (by decide : 47 + 1 ≤ _)⟩)
          dsimp only [Pt.U, Pt.locs, Pt.cells, Pt.slots] at X100 l100 y100 z100 st100 hQ100
          subst l100 y100 z100
          obtain ⟨x_100, rfl, Nq100, K100, f100_0, f100_1⟩ := hQ100
          have N100 := Fr.app N97 Nq100
          refine Ends.go st100 ?_
          show Ends _ _ _ _ (T100.setTop (mkF m 188 #[.val (.int p1), .val (.int p2), .val (.int p3), .val (.int p4), .val (.int p5), .val (.int (1 : Int32)), .val (.ref x_68), .val w71, .val w76, .val w81, .val (.ref x_85), .val (.int (1 : Int32))] [(.ref x_100)]))
          refine Ends.step (fun t k => XS.aconstNull X100.here hx rfl (hb hby at_188) k) ?_
          show Ends _ _ _ _ (T100.setTop (mkF m 189 #[.val (.int p1), .val (.int p2), .val (.int p3), .val (.int p4), .val (.int p5), .val (.int (1 : Int32)), .val (.ref x_68), .val w71, .val w76, .val w81, .val (.ref x_85), .val (.int (1 : Int32))] [.null, (.ref x_100)]))
          have F101 : Old Z n0 T100.heap := (F96.keep K100 all0)
          obtain ⟨cq102, kq102, q102a, q102b, q102c⟩ := isOf hZ83 rfl f100_0
          obtain ⟨_, _, ⟨T102, L102, k102, n102⟩, -, X102, ⟨Lc102, hQ102, l102, y102, z102⟩, st102⟩ := X100.virtualBack hx (y := (⟨"java/util/Optional", "orElse", "(Ljava/lang/Object;)Ljava/lang/Object;"⟩ : MethodName)) (z := (⟨"java/util/Optional", "orElse", "(Ljava/lang/Object;)Ljava/lang/Object;"⟩ : MethodName)) hown83 (mvT hZ83 (hw _ (List.mem_of_getElem? (i := 85) rfl))) (mvT hZ83 (hw _ (List.mem_of_getElem? (i := 86) rfl))) (notFace_of_selects (args := #[]) (mvT hZ83 (hw _ (List.mem_of_getElem? (i := 88) rfl)))) (mvT hZ83 (hw _ (List.mem_of_getElem? (i := 88) rfl))) (mvT hZ83 (hw _ (List.mem_of_getElem? (i := 87) rfl))) (by decide) (backOf (W := 0) (rmOpElG l Z a0 hw [] x_100 w81 T100.heap n0 (Nat.le_trans Z0 (Nat.le_trans (Nat.le_trans (Nat.le_trans (Nat.le_trans (Nat.le_trans (Nat.le_trans (Nat.le_trans K68.1 K73.1) K78.1) K83.1) K85.1) K88.1) K95.1) K100.1)) G1 O2 P5 eA SE XE FE F101 f100_1 hw81) hZ83 (hw _ (List.mem_of_getElem? (i := 89) rfl)) (hw _ (List.mem_of_getElem? (i := 74) rfl)) (by decide) (by decide)) q102a q102c (g := (mkF m 189 #[.val (.int p1), .val (.int p2), .val (.int p3), .val (.int p4), .val (.int p5), .val (.int (1 : Int32)), .val (.ref x_68), .val w71, .val w76, .val w81, .val (.ref x_85), .val (.int (1 : Int32))] [.null, (.ref x_100)])) rfl (by rw [hml]; rfl) (Steps.refl _) (argsL := [.null]) (rest := []) (lenOf pd_9 rfl) rfl (by show 2 * 0 + _ ≤ _; exact Nat.le_of_eq rfl) (hb hby at_189) (fun _ _ => ⟨rfl, rfl, (by decide : 20 + 0 ≤ _), (by decide : 48 + 0 ≤ _)⟩)
          dsimp only [Pt.U, Pt.locs, Pt.cells, Pt.slots] at X102 l102 y102 z102 st102 hQ102
          subst l102 y102 z102
          obtain ⟨rfl, Nq102, eh102⟩ := hQ102
          have N102 := Fr.app N100 Nq102
          refine Ends.go st102 ?_
          show Ends _ _ _ _ (T102.setTop (mkF m 192 #[.val (.int p1), .val (.int p2), .val (.int p3), .val (.int p4), .val (.int p5), .val (.int (1 : Int32)), .val (.ref x_68), .val w71, .val w76, .val w81, .val (.ref x_85), .val (.int (1 : Int32))] [w81]))
          refine Ends.step (fun t k => XS.aload X102.here hx rfl (hb hby at_192) rfl hw81 k) ?_
          show Ends _ _ _ _ (T102.setTop (mkF m 194 #[.val (.int p1), .val (.int p2), .val (.int p3), .val (.int p4), .val (.int p5), .val (.int (1 : Int32)), .val (.ref x_68), .val w71, .val w76, .val w81, .val (.ref x_85), .val (.int (1 : Int32))] [w81, w81]))
          refine Ends.step (fun t k => acmp X102 hx rfl (x := w81) (y := w81) hw81 hw81 (pc0 := 194) (pc' := 197) (same := true) rfl (hb hby at_194) rfl (decide_eq_true rfl) (by decide) (by decide) k) ?_
          show Ends _ _ _ _ (T102.setTop (mkF m 197 #[.val (.int p1), .val (.int p2), .val (.int p3), .val (.int p4), .val (.int p5), .val (.int (1 : Int32)), .val (.ref x_68), .val w71, .val w76, .val w81, .val (.ref x_85), .val (.int (1 : Int32))] []))
          refine Ends.step (fun t k => XS.iconst X102.here hx rfl (hb hby at_197) k) ?_
          show Ends _ _ _ _ (T102.setTop (mkF m 198 #[.val (.int p1), .val (.int p2), .val (.int p3), .val (.int p4), .val (.int p5), .val (.int (1 : Int32)), .val (.ref x_68), .val w71, .val w76, .val w81, .val (.ref x_85), .val (.int (1 : Int32))] [(.int (1 : Int32))]))
          refine Ends.step (fun t k => XS.goto X102.here hx rfl (pc0 := 198) (pc' := 202) rfl (hb hby at_198) (by decide) (by decide) k) ?_
          show Ends _ _ _ _ (T102.setTop (mkF m 202 #[.val (.int p1), .val (.int p2), .val (.int p3), .val (.int p4), .val (.int p5), .val (.int (1 : Int32)), .val (.ref x_68), .val w71, .val w76, .val w81, .val (.ref x_85), .val (.int (1 : Int32))] [(.int (1 : Int32))]))
          refine Ends.step (fun t k => XS.istore X102.here hx rfl (hb hby at_202) rfl (l' := #[.val (.int p1), .val (.int p2), .val (.int p3), .val (.int p4), .val (.int p5), .val (.int (1 : Int32)), .val (.ref x_68), .val w71, .val w76, .val w81, .val (.ref x_85), .val (.int (1 : Int32))]) rfl k) ?_
          show Ends _ _ _ _ (T102.setTop (mkF m 204 #[.val (.int p1), .val (.int p2), .val (.int p3), .val (.int p4), .val (.int p5), .val (.int (1 : Int32)), .val (.ref x_68), .val w71, .val w76, .val w81, .val (.ref x_85), .val (.int (1 : Int32))] []))
          refine Ends.step (fun t k => XS.iload X102.here hx rfl (hb hby at_204) rfl k) ?_
          show Ends _ _ _ _ (T102.setTop (mkF m 206 #[.val (.int p1), .val (.int p2), .val (.int p3), .val (.int p4), .val (.int p5), .val (.int (1 : Int32)), .val (.ref x_68), .val w71, .val w76, .val w81, .val (.ref x_85), .val (.int (1 : Int32))] [(.int (1 : Int32))]))
          refine Ends.step (fun t k => XS.ifNo X102.here hx rfl (hb hby at_206) rfl ((if0 _ _).trans (feq (by decide : ¬ ((1 : Int32) = (0 : Int32)))).1) k) ?_
          show Ends _ _ _ _ (T102.setTop (mkF m 209 #[.val (.int p1), .val (.int p2), .val (.int p3), .val (.int p4), .val (.int p5), .val (.int (1 : Int32)), .val (.ref x_68), .val w71, .val w76, .val w81, .val (.ref x_85), .val (.int (1 : Int32))] []))
          refine Ends.step (fun t k => XS.aload X102.here hx rfl (hb hby at_209) rfl rfl k) ?_
          show Ends _ _ _ _ (T102.setTop (mkF m 211 #[.val (.int p1), .val (.int p2), .val (.int p3), .val (.int p4), .val (.int p5), .val (.int (1 : Int32)), .val (.ref x_68), .val w71, .val w76, .val w81, .val (.ref x_85), .val (.int (1 : Int32))] [(.ref x_85)]))
          have F103 : Exa Z T100.heap x_85 "com/example/operatory/operatory/fhir/SearchValue$Alternative" := (F98.keep K100)
          have F104 : Fld Z T100.heap x_85 "com/example/operatory/operatory/fhir/SearchValue$Alternative" "prefix" "Lcom/example/operatory/operatory/fhir/SearchValue$Prefix;" .null := (((f85_3.keep K88 nin0).keep K95 nin0).keep K100 nin0)
          obtain ⟨cq105, kq105, q105a, q105b, q105c⟩ := isOf hZ83 eh102 F103
          obtain ⟨_, _, ⟨T105, L105, k105, n105⟩, -, X105, ⟨Lc105, hQ105, l105, y105, z105⟩, st105⟩ := X102.virtualBack hx (y := (⟨"com/example/operatory/operatory/fhir/SearchValue$Alternative", "prefix", "()Ljava/util/Optional;"⟩ : MethodName)) (z := (⟨"com/example/operatory/operatory/fhir/SearchValue$Alternative", "prefix", "()Ljava/util/Optional;"⟩ : MethodName)) hown83 (mvT hZ83 (hw _ (List.mem_of_getElem? (i := 105) rfl))) (mvT hZ83 (hw _ (List.mem_of_getElem? (i := 106) rfl))) (notFace_of_selects (args := #[]) (mvT hZ83 (hw _ (List.mem_of_getElem? (i := 108) rfl)))) (mvT hZ83 (hw _ (List.mem_of_getElem? (i := 108) rfl))) (mvT hZ83 (hw _ (List.mem_of_getElem? (i := 107) rfl))) (by decide) (backOf (W := 0) (rmGn_prefix l Z a0 hw [] x_85 T100.heap n0 (Nat.le_trans Z0 (Nat.le_trans (Nat.le_trans (Nat.le_trans (Nat.le_trans (Nat.le_trans (Nat.le_trans (Nat.le_trans K68.1 K73.1) K78.1) K83.1) K85.1) K88.1) K95.1) K100.1)) G1 O2 P5 eA SE XE FE F101 F104) hZ83 (hw _ (List.mem_of_getElem? (i := 109) rfl)) (hw _ (List.mem_of_getElem? (i := 28) rfl)) (by decide) (by decide)) q105a q105c (g := (mkF m 211 #[.val (.int p1), .val (.int p2), .val (.int p3), .val (.int p4), .val (.int p5), .val (.int (1 : Int32)), .val (.ref x_68), .val w71, .val w76, .val w81, .val (.ref x_85), .val (.int (1 : Int32))] [(.ref x_85)])) rfl (by rw [hml]; rfl) (Steps.refl _) (argsL := []) (rest := []) (lenOf pd_8 rfl) rfl (by show 2 * 0 + _ ≤ _; exact Nat.le_of_eq rfl) (hb hby at_211) (fun _ _ => ⟨rfl, eh102, (by decide : 20 + 0 ≤ _), (by decide : 48 + 0 ≤ _)⟩)
          dsimp only [Pt.U, Pt.locs, Pt.cells, Pt.slots] at X105 l105 y105 z105 st105 hQ105
          subst l105 y105 z105
          obtain ⟨rfl, Nq105, eh105⟩ := hQ105
          have N105 := Fr.app N102 Nq105
          refine Ends.go st105 ?_
          show Ends _ _ _ _ (T105.setTop (mkF m 214 #[.val (.int p1), .val (.int p2), .val (.int p3), .val (.int p4), .val (.int p5), .val (.int (1 : Int32)), .val (.ref x_68), .val w71, .val w76, .val w81, .val (.ref x_85), .val (.int (1 : Int32))] [(.ref eA)]))
          refine Ends.step (fun t k => XS.aconstNull X105.here hx rfl (hb hby at_214) k) ?_
          show Ends _ _ _ _ (T105.setTop (mkF m 215 #[.val (.int p1), .val (.int p2), .val (.int p3), .val (.int p4), .val (.int p5), .val (.int (1 : Int32)), .val (.ref x_68), .val w71, .val w76, .val w81, .val (.ref x_85), .val (.int (1 : Int32))] [.null, (.ref eA)]))
          have F106 : Exa Z T100.heap eA "java/util/Optional" := (((((((((XE.ext X00.2).keep K68).keep K73).keep K78).keep K83).keep K85).keep K88).keep K95).keep K100)
          have F107 : Fld Z T100.heap eA "java/util/Optional" "value" "Ljava/lang/Object;" .null := (((((((((FE.ext X00.2).keep K68 nin0).keep K73 nin0).keep K78 nin0).keep K83 nin0).keep K85 nin0).keep K88 nin0).keep K95 nin0).keep K100 nin0)
          obtain ⟨cq108, kq108, q108a, q108b, q108c⟩ := isOf hZ83 eh105 F106
          obtain ⟨_, _, ⟨T108, L108, k108, n108⟩, -, X108, ⟨Lc108, hQ108, l108, y108, z108⟩, st108⟩ := X105.virtualBack hx (y := (⟨"java/util/Optional", "orElse", "(Ljava/lang/Object;)Ljava/lang/Object;"⟩ : MethodName)) (z := (⟨"java/util/Optional", "orElse", "(Ljava/lang/Object;)Ljava/lang/Object;"⟩ : MethodName)) hown83 (mvT hZ83 (hw _ (List.mem_of_getElem? (i := 85) rfl))) (mvT hZ83 (hw _ (List.mem_of_getElem? (i := 86) rfl))) (notFace_of_selects (args := #[]) (mvT hZ83 (hw _ (List.mem_of_getElem? (i := 88) rfl)))) (mvT hZ83 (hw _ (List.mem_of_getElem? (i := 88) rfl))) (mvT hZ83 (hw _ (List.mem_of_getElem? (i := 87) rfl))) (by decide) (backOf (W := 0) (rmOpElG l Z a0 hw [] eA .null T100.heap n0 (Nat.le_trans Z0 (Nat.le_trans (Nat.le_trans (Nat.le_trans (Nat.le_trans (Nat.le_trans (Nat.le_trans (Nat.le_trans K68.1 K73.1) K78.1) K83.1) K85.1) K88.1) K95.1) K100.1)) G1 O2 P5 eA SE XE FE F101 F107 rfl) hZ83 (hw _ (List.mem_of_getElem? (i := 89) rfl)) (hw _ (List.mem_of_getElem? (i := 74) rfl)) (by decide) (by decide)) q108a q108c (g := (mkF m 215 #[.val (.int p1), .val (.int p2), .val (.int p3), .val (.int p4), .val (.int p5), .val (.int (1 : Int32)), .val (.ref x_68), .val w71, .val w76, .val w81, .val (.ref x_85), .val (.int (1 : Int32))] [.null, (.ref eA)])) rfl (by rw [hml]; rfl) (Steps.refl _) (argsL := [.null]) (rest := []) (lenOf pd_9 rfl) rfl (by show 2 * 0 + _ ≤ _; exact Nat.le_of_eq rfl) (hb hby at_215) (fun _ _ => ⟨rfl, eh105, (by decide : 20 + 0 ≤ _), (by decide : 48 + 0 ≤ _)⟩)
          dsimp only [Pt.U, Pt.locs, Pt.cells, Pt.slots] at X108 l108 y108 z108 st108 hQ108
          subst l108 y108 z108
          obtain ⟨rfl, Nq108, eh108⟩ := hQ108
          have N108 := Fr.app N105 Nq108
          refine Ends.go st108 ?_
          show Ends _ _ _ _ (T108.setTop (mkF m 218 #[.val (.int p1), .val (.int p2), .val (.int p3), .val (.int p4), .val (.int p5), .val (.int (1 : Int32)), .val (.ref x_68), .val w71, .val w76, .val w81, .val (.ref x_85), .val (.int (1 : Int32))] [.null]))
          refine Ends.step (fun t k => XS.ifnonnullNo X108.here hx rfl (hb hby at_218) rfl k) ?_
          show Ends _ _ _ _ (T108.setTop (mkF m 221 #[.val (.int p1), .val (.int p2), .val (.int p3), .val (.int p4), .val (.int p5), .val (.int (1 : Int32)), .val (.ref x_68), .val w71, .val w76, .val w81, .val (.ref x_85), .val (.int (1 : Int32))] []))
          refine Ends.step (fun t k => XS.iconst X108.here hx rfl (hb hby at_221) k) ?_
          show Ends _ _ _ _ (T108.setTop (mkF m 222 #[.val (.int p1), .val (.int p2), .val (.int p3), .val (.int p4), .val (.int p5), .val (.int (1 : Int32)), .val (.ref x_68), .val w71, .val w76, .val w81, .val (.ref x_85), .val (.int (1 : Int32))] [(.int (1 : Int32))]))
          refine Ends.step (fun t k => XS.goto X108.here hx rfl (pc0 := 222) (pc' := 226) rfl (hb hby at_222) (by decide) (by decide) k) ?_
          show Ends _ _ _ _ (T108.setTop (mkF m 226 #[.val (.int p1), .val (.int p2), .val (.int p3), .val (.int p4), .val (.int p5), .val (.int (1 : Int32)), .val (.ref x_68), .val w71, .val w76, .val w81, .val (.ref x_85), .val (.int (1 : Int32))] [(.int (1 : Int32))]))
          refine Ends.step (fun t k => XS.istore X108.here hx rfl (hb hby at_226) rfl (l' := #[.val (.int p1), .val (.int p2), .val (.int p3), .val (.int p4), .val (.int p5), .val (.int (1 : Int32)), .val (.ref x_68), .val w71, .val w76, .val w81, .val (.ref x_85), .val (.int (1 : Int32))]) rfl k) ?_
          show Ends _ _ _ _ (T108.setTop (mkF m 228 #[.val (.int p1), .val (.int p2), .val (.int p3), .val (.int p4), .val (.int p5), .val (.int (1 : Int32)), .val (.ref x_68), .val w71, .val w76, .val w81, .val (.ref x_85), .val (.int (1 : Int32))] []))
          refine Ends.step (fun t k => XS.iload X108.here hx rfl (hb hby at_228) rfl k) ?_
          show Ends _ _ _ _ (T108.setTop (mkF m 230 #[.val (.int p1), .val (.int p2), .val (.int p3), .val (.int p4), .val (.int p5), .val (.int (1 : Int32)), .val (.ref x_68), .val w71, .val w76, .val w81, .val (.ref x_85), .val (.int (1 : Int32))] [(.int (1 : Int32))]))
          refine Ends.step (fun t k => XS.ifNo X108.here hx rfl (hb hby at_230) rfl ((if0 _ _).trans (feq (by decide : ¬ ((1 : Int32) = (0 : Int32)))).1) k) ?_
          show Ends _ _ _ _ (T108.setTop (mkF m 233 #[.val (.int p1), .val (.int p2), .val (.int p3), .val (.int p4), .val (.int p5), .val (.int (1 : Int32)), .val (.ref x_68), .val w71, .val w76, .val w81, .val (.ref x_85), .val (.int (1 : Int32))] []))
          refine Ends.step (fun t k => XS.aload X108.here hx rfl (hb hby at_233) rfl rfl k) ?_
          show Ends _ _ _ _ (T108.setTop (mkF m 235 #[.val (.int p1), .val (.int p2), .val (.int p3), .val (.int p4), .val (.int p5), .val (.int (1 : Int32)), .val (.ref x_68), .val w71, .val w76, .val w81, .val (.ref x_85), .val (.int (1 : Int32))] [(.ref x_85)]))
          have F109 : Fld Z T100.heap x_85 "com/example/operatory/operatory/fhir/SearchValue$Alternative" "number" "Ljava/math/BigDecimal;" .null := (((f85_4.keep K88 nin0).keep K95 nin0).keep K100 nin0)
          obtain ⟨cq110, kq110, q110a, q110b, q110c⟩ := isOf hZ83 eh108 F103
          obtain ⟨_, _, ⟨T110, L110, k110, n110⟩, -, X110, ⟨Lc110, hQ110, l110, y110, z110⟩, st110⟩ := X108.virtualBack hx (y := (⟨"com/example/operatory/operatory/fhir/SearchValue$Alternative", "number", "()Ljava/util/Optional;"⟩ : MethodName)) (z := (⟨"com/example/operatory/operatory/fhir/SearchValue$Alternative", "number", "()Ljava/util/Optional;"⟩ : MethodName)) hown83 (mvT hZ83 (hw _ (List.mem_of_getElem? (i := 111) rfl))) (mvT hZ83 (hw _ (List.mem_of_getElem? (i := 112) rfl))) (notFace_of_selects (args := #[]) (mvT hZ83 (hw _ (List.mem_of_getElem? (i := 114) rfl)))) (mvT hZ83 (hw _ (List.mem_of_getElem? (i := 114) rfl))) (mvT hZ83 (hw _ (List.mem_of_getElem? (i := 113) rfl))) (by decide) (backOf (W := 0) (rmGn_number l Z a0 hw [] x_85 T100.heap n0 (Nat.le_trans Z0 (Nat.le_trans (Nat.le_trans (Nat.le_trans (Nat.le_trans (Nat.le_trans (Nat.le_trans (Nat.le_trans K68.1 K73.1) K78.1) K83.1) K85.1) K88.1) K95.1) K100.1)) G1 O2 P5 eA SE XE FE F101 F109) hZ83 (hw _ (List.mem_of_getElem? (i := 115) rfl)) (hw _ (List.mem_of_getElem? (i := 28) rfl)) (by decide) (by decide)) q110a q110c (g := (mkF m 235 #[.val (.int p1), .val (.int p2), .val (.int p3), .val (.int p4), .val (.int p5), .val (.int (1 : Int32)), .val (.ref x_68), .val w71, .val w76, .val w81, .val (.ref x_85), .val (.int (1 : Int32))] [(.ref x_85)])) rfl (by rw [hml]; rfl) (Steps.refl _) (argsL := []) (rest := []) (lenOf pd_8 rfl) rfl (by show 2 * 0 + _ ≤ _; exact Nat.le_of_eq rfl) (hb hby at_235) (fun _ _ => ⟨rfl, eh108, (by decide : 20 + 0 ≤ _), (by decide : 48 + 0 ≤ _)⟩)
          dsimp only [Pt.U, Pt.locs, Pt.cells, Pt.slots] at X110 l110 y110 z110 st110 hQ110
          subst l110 y110 z110
          obtain ⟨rfl, Nq110, eh110⟩ := hQ110
          have N110 := Fr.app N108 Nq110
          refine Ends.go st110 ?_
          show Ends _ _ _ _ (T110.setTop (mkF m 238 #[.val (.int p1), .val (.int p2), .val (.int p3), .val (.int p4), .val (.int p5), .val (.int (1 : Int32)), .val (.ref x_68), .val w71, .val w76, .val w81, .val (.ref x_85), .val (.int (1 : Int32))] [(.ref eA)]))
          refine Ends.step (fun t k => XS.aconstNull X110.here hx rfl (hb hby at_238) k) ?_
          show Ends _ _ _ _ (T110.setTop (mkF m 239 #[.val (.int p1), .val (.int p2), .val (.int p3), .val (.int p4), .val (.int p5), .val (.int (1 : Int32)), .val (.ref x_68), .val w71, .val w76, .val w81, .val (.ref x_85), .val (.int (1 : Int32))] [.null, (.ref eA)]))
          obtain ⟨cq111, kq111, q111a, q111b, q111c⟩ := isOf hZ83 eh110 F106
          obtain ⟨_, _, ⟨T111, L111, k111, n111⟩, -, X111, ⟨Lc111, hQ111, l111, y111, z111⟩, st111⟩ := X110.virtualBack hx (y := (⟨"java/util/Optional", "orElse", "(Ljava/lang/Object;)Ljava/lang/Object;"⟩ : MethodName)) (z := (⟨"java/util/Optional", "orElse", "(Ljava/lang/Object;)Ljava/lang/Object;"⟩ : MethodName)) hown83 (mvT hZ83 (hw _ (List.mem_of_getElem? (i := 85) rfl))) (mvT hZ83 (hw _ (List.mem_of_getElem? (i := 86) rfl))) (notFace_of_selects (args := #[]) (mvT hZ83 (hw _ (List.mem_of_getElem? (i := 88) rfl)))) (mvT hZ83 (hw _ (List.mem_of_getElem? (i := 88) rfl))) (mvT hZ83 (hw _ (List.mem_of_getElem? (i := 87) rfl))) (by decide) (backOf (W := 0) (rmOpElG l Z a0 hw [] eA .null T100.heap n0 (Nat.le_trans Z0 (Nat.le_trans (Nat.le_trans (Nat.le_trans (Nat.le_trans (Nat.le_trans (Nat.le_trans (Nat.le_trans K68.1 K73.1) K78.1) K83.1) K85.1) K88.1) K95.1) K100.1)) G1 O2 P5 eA SE XE FE F101 F107 rfl) hZ83 (hw _ (List.mem_of_getElem? (i := 89) rfl)) (hw _ (List.mem_of_getElem? (i := 74) rfl)) (by decide) (by decide)) q111a q111c (g := (mkF m 239 #[.val (.int p1), .val (.int p2), .val (.int p3), .val (.int p4), .val (.int p5), .val (.int (1 : Int32)), .val (.ref x_68), .val w71, .val w76, .val w81, .val (.ref x_85), .val (.int (1 : Int32))] [.null, (.ref eA)])) rfl (by rw [hml]; rfl) (Steps.refl _) (argsL := [.null]) (rest := []) (lenOf pd_9 rfl) rfl (by show 2 * 0 + _ ≤ _; exact Nat.le_of_eq rfl) (hb hby at_239) (fun _ _ => ⟨rfl, eh110, (by decide : 20 + 0 ≤ _), (by decide : 48 + 0 ≤ _)⟩)
          dsimp only [Pt.U, Pt.locs, Pt.cells, Pt.slots] at X111 l111 y111 z111 st111 hQ111
          subst l111 y111 z111
          obtain ⟨rfl, Nq111, eh111⟩ := hQ111
          have N111 := Fr.app N110 Nq111
          refine Ends.go st111 ?_
          show Ends _ _ _ _ (T111.setTop (mkF m 242 #[.val (.int p1), .val (.int p2), .val (.int p3), .val (.int p4), .val (.int p5), .val (.int (1 : Int32)), .val (.ref x_68), .val w71, .val w76, .val w81, .val (.ref x_85), .val (.int (1 : Int32))] [.null]))
          refine Ends.step (fun t k => XS.ifnonnullNo X111.here hx rfl (hb hby at_242) rfl k) ?_
          show Ends _ _ _ _ (T111.setTop (mkF m 245 #[.val (.int p1), .val (.int p2), .val (.int p3), .val (.int p4), .val (.int p5), .val (.int (1 : Int32)), .val (.ref x_68), .val w71, .val w76, .val w81, .val (.ref x_85), .val (.int (1 : Int32))] []))
          refine Ends.step (fun t k => XS.iconst X111.here hx rfl (hb hby at_245) k) ?_
          show Ends _ _ _ _ (T111.setTop (mkF m 246 #[.val (.int p1), .val (.int p2), .val (.int p3), .val (.int p4), .val (.int p5), .val (.int (1 : Int32)), .val (.ref x_68), .val w71, .val w76, .val w81, .val (.ref x_85), .val (.int (1 : Int32))] [(.int (1 : Int32))]))
          refine Ends.step (fun t k => XS.goto X111.here hx rfl (pc0 := 246) (pc' := 250) rfl (hb hby at_246) (by decide) (by decide) k) ?_
          show Ends _ _ _ _ (T111.setTop (mkF m 250 #[.val (.int p1), .val (.int p2), .val (.int p3), .val (.int p4), .val (.int p5), .val (.int (1 : Int32)), .val (.ref x_68), .val w71, .val w76, .val w81, .val (.ref x_85), .val (.int (1 : Int32))] [(.int (1 : Int32))]))
          refine Ends.step (fun t k => XS.istore X111.here hx rfl (hb hby at_250) rfl (l' := #[.val (.int p1), .val (.int p2), .val (.int p3), .val (.int p4), .val (.int p5), .val (.int (1 : Int32)), .val (.ref x_68), .val w71, .val w76, .val w81, .val (.ref x_85), .val (.int (1 : Int32))]) rfl k) ?_
          show Ends _ _ _ _ (T111.setTop (mkF m 252 #[.val (.int p1), .val (.int p2), .val (.int p3), .val (.int p4), .val (.int p5), .val (.int (1 : Int32)), .val (.ref x_68), .val w71, .val w76, .val w81, .val (.ref x_85), .val (.int (1 : Int32))] []))
          refine Ends.step (fun t k => XS.iload X111.here hx rfl (hb hby at_252) rfl k) ?_
          show Ends _ _ _ _ (T111.setTop (mkF m 254 #[.val (.int p1), .val (.int p2), .val (.int p3), .val (.int p4), .val (.int p5), .val (.int (1 : Int32)), .val (.ref x_68), .val w71, .val w76, .val w81, .val (.ref x_85), .val (.int (1 : Int32))] [(.int (1 : Int32))]))
          refine Ends.step (fun t k => XS.ifNo X111.here hx rfl (hb hby at_254) rfl ((if0 _ _).trans (feq (by decide : ¬ ((1 : Int32) = (0 : Int32)))).1) k) ?_
          show Ends _ _ _ _ (T111.setTop (mkF m 257 #[.val (.int p1), .val (.int p2), .val (.int p3), .val (.int p4), .val (.int p5), .val (.int (1 : Int32)), .val (.ref x_68), .val w71, .val w76, .val w81, .val (.ref x_85), .val (.int (1 : Int32))] []))
          refine Ends.step (fun t k => XS.aload X111.here hx rfl (hb hby at_257) rfl rfl k) ?_
          show Ends _ _ _ _ (T111.setTop (mkF m 259 #[.val (.int p1), .val (.int p2), .val (.int p3), .val (.int p4), .val (.int p5), .val (.int (1 : Int32)), .val (.ref x_68), .val w71, .val w76, .val w81, .val (.ref x_85), .val (.int (1 : Int32))] [(.ref x_85)]))
          have F112 : Fld Z T100.heap x_85 "com/example/operatory/operatory/fhir/SearchValue$Alternative" "type" "Ljava/lang/String;" .null := (((f85_11.keep K88 nin0).keep K95 nin0).keep K100 nin0)
          obtain ⟨cq113, kq113, q113a, q113b, q113c⟩ := isOf hZ83 eh111 F103
          obtain ⟨_, _, ⟨T113, L113, k113, n113⟩, -, X113, ⟨Lc113, hQ113, l113, y113, z113⟩, st113⟩ := X111.virtualBack hx (y := (⟨"com/example/operatory/operatory/fhir/SearchValue$Alternative", "type", "()Ljava/util/Optional;"⟩ : MethodName)) (z := (⟨"com/example/operatory/operatory/fhir/SearchValue$Alternative", "type", "()Ljava/util/Optional;"⟩ : MethodName)) hown83 (mvT hZ83 (hw _ (List.mem_of_getElem? (i := 116) rfl))) (mvT hZ83 (hw _ (List.mem_of_getElem? (i := 117) rfl))) (notFace_of_selects (args := #[]) (mvT hZ83 (hw _ (List.mem_of_getElem? (i := 119) rfl)))) (mvT hZ83 (hw _ (List.mem_of_getElem? (i := 119) rfl))) (mvT hZ83 (hw _ (List.mem_of_getElem? (i := 118) rfl))) (by decide) (backOf (W := 0) (rmGn_type l Z a0 hw [] x_85 T100.heap n0 (Nat.le_trans Z0 (Nat.le_trans (Nat.le_trans (Nat.le_trans (Nat.le_trans (Nat.le_trans (Nat.le_trans (Nat.le_trans K68.1 K73.1) K78.1) K83.1) K85.1) K88.1) K95.1) K100.1)) G1 O2 P5 eA SE XE FE F101 F112) hZ83 (hw _ (List.mem_of_getElem? (i := 120) rfl)) (hw _ (List.mem_of_getElem? (i := 28) rfl)) (by decide) (by decide)) q113a q113c (g := (mkF m 259 #[.val (.int p1), .val (.int p2), .val (.int p3), .val (.int p4), .val (.int p5), .val (.int (1 : Int32)), .val (.ref x_68), .val w71, .val w76, .val w81, .val (.ref x_85), .val (.int (1 : Int32))] [(.ref x_85)])) rfl (by rw [hml]; rfl) (Steps.refl _) (argsL := []) (rest := []) (lenOf pd_8 rfl) rfl (by show 2 * 0 + _ ≤ _; exact Nat.le_of_eq rfl) (hb hby at_259) (fun _ _ => ⟨rfl, eh111, (by decide : 20 + 0 ≤ _), (by decide : 48 + 0 ≤ _)⟩)
          dsimp only [Pt.U, Pt.locs, Pt.cells, Pt.slots] at X113 l113 y113 z113 st113 hQ113
          subst l113 y113 z113
          obtain ⟨rfl, Nq113, eh113⟩ := hQ113
          have N113 := Fr.app N111 Nq113
          refine Ends.go st113 ?_
          show Ends _ _ _ _ (T113.setTop (mkF m 262 #[.val (.int p1), .val (.int p2), .val (.int p3), .val (.int p4), .val (.int p5), .val (.int (1 : Int32)), .val (.ref x_68), .val w71, .val w76, .val w81, .val (.ref x_85), .val (.int (1 : Int32))] [(.ref eA)]))
          refine Ends.step (fun t k => XS.aconstNull X113.here hx rfl (hb hby at_262) k) ?_
          show Ends _ _ _ _ (T113.setTop (mkF m 263 #[.val (.int p1), .val (.int p2), .val (.int p3), .val (.int p4), .val (.int p5), .val (.int (1 : Int32)), .val (.ref x_68), .val w71, .val w76, .val w81, .val (.ref x_85), .val (.int (1 : Int32))] [.null, (.ref eA)]))
          obtain ⟨cq114, kq114, q114a, q114b, q114c⟩ := isOf hZ83 eh113 F106
          obtain ⟨_, _, ⟨T114, L114, k114, n114⟩, -, X114, ⟨Lc114, hQ114, l114, y114, z114⟩, st114⟩ := X113.virtualBack hx (y := (⟨"java/util/Optional", "orElse", "(Ljava/lang/Object;)Ljava/lang/Object;"⟩ : MethodName)) (z := (⟨"java/util/Optional", "orElse", "(Ljava/lang/Object;)Ljava/lang/Object;"⟩ : MethodName)) hown83 (mvT hZ83 (hw _ (List.mem_of_getElem? (i := 85) rfl))) (mvT hZ83 (hw _ (List.mem_of_getElem? (i := 86) rfl))) (notFace_of_selects (args := #[]) (mvT hZ83 (hw _ (List.mem_of_getElem? (i := 88) rfl)))) (mvT hZ83 (hw _ (List.mem_of_getElem? (i := 88) rfl))) (mvT hZ83 (hw _ (List.mem_of_getElem? (i := 87) rfl))) (by decide) (backOf (W := 0) (rmOpElG l Z a0 hw [] eA .null T100.heap n0 (Nat.le_trans Z0 (Nat.le_trans (Nat.le_trans (Nat.le_trans (Nat.le_trans (Nat.le_trans (Nat.le_trans (Nat.le_trans K68.1 K73.1) K78.1) K83.1) K85.1) K88.1) K95.1) K100.1)) G1 O2 P5 eA SE XE FE F101 F107 rfl) hZ83 (hw _ (List.mem_of_getElem? (i := 89) rfl)) (hw _ (List.mem_of_getElem? (i := 74) rfl)) (by decide) (by decide)) q114a q114c (g := (mkF m 263 #[.val (.int p1), .val (.int p2), .val (.int p3), .val (.int p4), .val (.int p5), .val (.int (1 : Int32)), .val (.ref x_68), .val w71, .val w76, .val w81, .val (.ref x_85), .val (.int (1 : Int32))] [.null, (.ref eA)])) rfl (by rw [hml]; rfl) (Steps.refl _) (argsL := [.null]) (rest := []) (lenOf pd_9 rfl) rfl (by show 2 * 0 + _ ≤ _; exact Nat.le_of_eq rfl) (hb hby at_263) (fun _ _ => ⟨rfl, eh113, (by decide : 20 + 0 ≤ _), (by decide : 48 + 0 ≤ _)⟩)
          dsimp only [Pt.U, Pt.locs, Pt.cells, Pt.slots] at X114 l114 y114 z114 st114 hQ114
          subst l114 y114 z114
          obtain ⟨rfl, Nq114, eh114⟩ := hQ114
          have N114 := Fr.app N113 Nq114
          refine Ends.go st114 ?_
          show Ends _ _ _ _ (T114.setTop (mkF m 266 #[.val (.int p1), .val (.int p2), .val (.int p3), .val (.int p4), .val (.int p5), .val (.int (1 : Int32)), .val (.ref x_68), .val w71, .val w76, .val w81, .val (.ref x_85), .val (.int (1 : Int32))] [.null]))
          refine Ends.step (fun t k => XS.ifnonnullNo X114.here hx rfl (hb hby at_266) rfl k) ?_
          show Ends _ _ _ _ (T114.setTop (mkF m 269 #[.val (.int p1), .val (.int p2), .val (.int p3), .val (.int p4), .val (.int p5), .val (.int (1 : Int32)), .val (.ref x_68), .val w71, .val w76, .val w81, .val (.ref x_85), .val (.int (1 : Int32))] []))
          refine Ends.step (fun t k => XS.iconst X114.here hx rfl (hb hby at_269) k) ?_
          show Ends _ _ _ _ (T114.setTop (mkF m 270 #[.val (.int p1), .val (.int p2), .val (.int p3), .val (.int p4), .val (.int p5), .val (.int (1 : Int32)), .val (.ref x_68), .val w71, .val w76, .val w81, .val (.ref x_85), .val (.int (1 : Int32))] [(.int (1 : Int32))]))
          refine Ends.step (fun t k => XS.goto X114.here hx rfl (pc0 := 270) (pc' := 274) rfl (hb hby at_270) (by decide) (by decide) k) ?_
          show Ends _ _ _ _ (T114.setTop (mkF m 274 #[.val (.int p1), .val (.int p2), .val (.int p3), .val (.int p4), .val (.int p5), .val (.int (1 : Int32)), .val (.ref x_68), .val w71, .val w76, .val w81, .val (.ref x_85), .val (.int (1 : Int32))] [(.int (1 : Int32))]))
          refine Ends.step (fun t k => XS.istore X114.here hx rfl (hb hby at_274) rfl (l' := #[.val (.int p1), .val (.int p2), .val (.int p3), .val (.int p4), .val (.int p5), .val (.int (1 : Int32)), .val (.ref x_68), .val w71, .val w76, .val w81, .val (.ref x_85), .val (.int (1 : Int32))]) rfl k) ?_
          show Ends _ _ _ _ (T114.setTop (mkF m 276 #[.val (.int p1), .val (.int p2), .val (.int p3), .val (.int p4), .val (.int p5), .val (.int (1 : Int32)), .val (.ref x_68), .val w71, .val w76, .val w81, .val (.ref x_85), .val (.int (1 : Int32))] []))
          refine Ends.step (fun t k => XS.iload X114.here hx rfl (hb hby at_276) rfl k) ?_
          show Ends _ _ _ _ (T114.setTop (mkF m 278 #[.val (.int p1), .val (.int p2), .val (.int p3), .val (.int p4), .val (.int p5), .val (.int (1 : Int32)), .val (.ref x_68), .val w71, .val w76, .val w81, .val (.ref x_85), .val (.int (1 : Int32))] [(.int (1 : Int32))]))
          refine Ends.step (fun t k => XS.ifNo X114.here hx rfl (hb hby at_278) rfl ((if0 _ _).trans (feq (by decide : ¬ ((1 : Int32) = (0 : Int32)))).1) k) ?_
          show Ends _ _ _ _ (T114.setTop (mkF m 281 #[.val (.int p1), .val (.int p2), .val (.int p3), .val (.int p4), .val (.int p5), .val (.int (1 : Int32)), .val (.ref x_68), .val w71, .val w76, .val w81, .val (.ref x_85), .val (.int (1 : Int32))] []))
          refine Ends.step (fun t k => XS.aload X114.here hx rfl (hb hby at_281) rfl rfl k) ?_
          show Ends _ _ _ _ (T114.setTop (mkF m 283 #[.val (.int p1), .val (.int p2), .val (.int p3), .val (.int p4), .val (.int p5), .val (.int (1 : Int32)), .val (.ref x_68), .val w71, .val w76, .val w81, .val (.ref x_85), .val (.int (1 : Int32))] [(.ref x_85)]))
          have F115 : Fld Z T100.heap x_85 "com/example/operatory/operatory/fhir/SearchValue$Alternative" "url" "Ljava/lang/String;" .null := (((f85_13.keep K88 nin0).keep K95 nin0).keep K100 nin0)
          obtain ⟨cq116, kq116, q116a, q116b, q116c⟩ := isOf hZ83 eh114 F103
          obtain ⟨_, _, ⟨T116, L116, k116, n116⟩, -, X116, ⟨Lc116, hQ116, l116, y116, z116⟩, st116⟩ := X114.virtualBack hx (y := (⟨"com/example/operatory/operatory/fhir/SearchValue$Alternative", "url", "()Ljava/util/Optional;"⟩ : MethodName)) (z := (⟨"com/example/operatory/operatory/fhir/SearchValue$Alternative", "url", "()Ljava/util/Optional;"⟩ : MethodName)) hown83 (mvT hZ83 (hw _ (List.mem_of_getElem? (i := 121) rfl))) (mvT hZ83 (hw _ (List.mem_of_getElem? (i := 122) rfl))) (notFace_of_selects (args := #[]) (mvT hZ83 (hw _ (List.mem_of_getElem? (i := 124) rfl)))) (mvT hZ83 (hw _ (List.mem_of_getElem? (i := 124) rfl))) (mvT hZ83 (hw _ (List.mem_of_getElem? (i := 123) rfl))) (by decide) (backOf (W := 0) (rmGn_url l Z a0 hw [] x_85 T100.heap n0 (Nat.le_trans Z0 (Nat.le_trans (Nat.le_trans (Nat.le_trans (Nat.le_trans (Nat.le_trans (Nat.le_trans (Nat.le_trans K68.1 K73.1) K78.1) K83.1) K85.1) K88.1) K95.1) K100.1)) G1 O2 P5 eA SE XE FE F101 F115) hZ83 (hw _ (List.mem_of_getElem? (i := 125) rfl)) (hw _ (List.mem_of_getElem? (i := 28) rfl)) (by decide) (by decide)) q116a q116c (g := (mkF m 283 #[.val (.int p1), .val (.int p2), .val (.int p3), .val (.int p4), .val (.int p5), .val (.int (1 : Int32)), .val (.ref x_68), .val w71, .val w76, .val w81, .val (.ref x_85), .val (.int (1 : Int32))] [(.ref x_85)])) rfl (by rw [hml]; rfl) (Steps.refl _) (argsL := []) (rest := []) (lenOf pd_8 rfl) rfl (by show 2 * 0 + _ ≤ _; exact Nat.le_of_eq rfl) (hb hby at_283) (fun _ _ => ⟨rfl, eh114, (by decide : 20 + 0 ≤ _), (by decide : 48 + 0 ≤ _)⟩)
          dsimp only [Pt.U, Pt.locs, Pt.cells, Pt.slots] at X116 l116 y116 z116 st116 hQ116
          subst l116 y116 z116
          obtain ⟨rfl, Nq116, eh116⟩ := hQ116
          have N116 := Fr.app N114 Nq116
          refine Ends.go st116 ?_
          show Ends _ _ _ _ (T116.setTop (mkF m 286 #[.val (.int p1), .val (.int p2), .val (.int p3), .val (.int p4), .val (.int p5), .val (.int (1 : Int32)), .val (.ref x_68), .val w71, .val w76, .val w81, .val (.ref x_85), .val (.int (1 : Int32))] [(.ref eA)]))
          refine Ends.step (fun t k => XS.aconstNull X116.here hx rfl (hb hby at_286) k) ?_
          show Ends _ _ _ _ (T116.setTop (mkF m 287 #[.val (.int p1), .val (.int p2), .val (.int p3), .val (.int p4), .val (.int p5), .val (.int (1 : Int32)), .val (.ref x_68), .val w71, .val w76, .val w81, .val (.ref x_85), .val (.int (1 : Int32))] [.null, (.ref eA)]))
          obtain ⟨cq117, kq117, q117a, q117b, q117c⟩ := isOf hZ83 eh116 F106
          obtain ⟨_, _, ⟨T117, L117, k117, n117⟩, -, X117, ⟨Lc117, hQ117, l117, y117, z117⟩, st117⟩ := X116.virtualBack hx (y := (⟨"java/util/Optional", "orElse", "(Ljava/lang/Object;)Ljava/lang/Object;"⟩ : MethodName)) (z := (⟨"java/util/Optional", "orElse", "(Ljava/lang/Object;)Ljava/lang/Object;"⟩ : MethodName)) hown83 (mvT hZ83 (hw _ (List.mem_of_getElem? (i := 85) rfl))) (mvT hZ83 (hw _ (List.mem_of_getElem? (i := 86) rfl))) (notFace_of_selects (args := #[]) (mvT hZ83 (hw _ (List.mem_of_getElem? (i := 88) rfl)))) (mvT hZ83 (hw _ (List.mem_of_getElem? (i := 88) rfl))) (mvT hZ83 (hw _ (List.mem_of_getElem? (i := 87) rfl))) (by decide) (backOf (W := 0) (rmOpElG l Z a0 hw [] eA .null T100.heap n0 (Nat.le_trans Z0 (Nat.le_trans (Nat.le_trans (Nat.le_trans (Nat.le_trans (Nat.le_trans (Nat.le_trans (Nat.le_trans K68.1 K73.1) K78.1) K83.1) K85.1) K88.1) K95.1) K100.1)) G1 O2 P5 eA SE XE FE F101 F107 rfl) hZ83 (hw _ (List.mem_of_getElem? (i := 89) rfl)) (hw _ (List.mem_of_getElem? (i := 74) rfl)) (by decide) (by decide)) q117a q117c (g := (mkF m 287 #[.val (.int p1), .val (.int p2), .val (.int p3), .val (.int p4), .val (.int p5), .val (.int (1 : Int32)), .val (.ref x_68), .val w71, .val w76, .val w81, .val (.ref x_85), .val (.int (1 : Int32))] [.null, (.ref eA)])) rfl (by rw [hml]; rfl) (Steps.refl _) (argsL := [.null]) (rest := []) (lenOf pd_9 rfl) rfl (by show 2 * 0 + _ ≤ _; exact Nat.le_of_eq rfl) (hb hby at_287) (fun _ _ => ⟨rfl, eh116, (by decide : 20 + 0 ≤ _), (by decide : 48 + 0 ≤ _)⟩)
          dsimp only [Pt.U, Pt.locs, Pt.cells, Pt.slots] at X117 l117 y117 z117 st117 hQ117
          subst l117 y117 z117
          obtain ⟨rfl, Nq117, eh117⟩ := hQ117
          have N117 := Fr.app N116 Nq117
          refine Ends.go st117 ?_
          show Ends _ _ _ _ (T117.setTop (mkF m 290 #[.val (.int p1), .val (.int p2), .val (.int p3), .val (.int p4), .val (.int p5), .val (.int (1 : Int32)), .val (.ref x_68), .val w71, .val w76, .val w81, .val (.ref x_85), .val (.int (1 : Int32))] [.null]))
          refine Ends.step (fun t k => XS.ifnonnullNo X117.here hx rfl (hb hby at_290) rfl k) ?_
          show Ends _ _ _ _ (T117.setTop (mkF m 293 #[.val (.int p1), .val (.int p2), .val (.int p3), .val (.int p4), .val (.int p5), .val (.int (1 : Int32)), .val (.ref x_68), .val w71, .val w76, .val w81, .val (.ref x_85), .val (.int (1 : Int32))] []))
          refine Ends.step (fun t k => XS.iconst X117.here hx rfl (hb hby at_293) k) ?_
          show Ends _ _ _ _ (T117.setTop (mkF m 294 #[.val (.int p1), .val (.int p2), .val (.int p3), .val (.int p4), .val (.int p5), .val (.int (1 : Int32)), .val (.ref x_68), .val w71, .val w76, .val w81, .val (.ref x_85), .val (.int (1 : Int32))] [(.int (1 : Int32))]))
          refine Ends.step (fun t k => XS.goto X117.here hx rfl (pc0 := 294) (pc' := 298) rfl (hb hby at_294) (by decide) (by decide) k) ?_
          show Ends _ _ _ _ (T117.setTop (mkF m 298 #[.val (.int p1), .val (.int p2), .val (.int p3), .val (.int p4), .val (.int p5), .val (.int (1 : Int32)), .val (.ref x_68), .val w71, .val w76, .val w81, .val (.ref x_85), .val (.int (1 : Int32))] [(.int (1 : Int32))]))
          refine Ends.step (fun t k => XS.istore X117.here hx rfl (hb hby at_298) rfl (l' := #[.val (.int p1), .val (.int p2), .val (.int p3), .val (.int p4), .val (.int p5), .val (.int (1 : Int32)), .val (.ref x_68), .val w71, .val w76, .val w81, .val (.ref x_85), .val (.int (1 : Int32))]) rfl k) ?_
          show Ends _ _ _ _ (T117.setTop (mkF m 300 #[.val (.int p1), .val (.int p2), .val (.int p3), .val (.int p4), .val (.int p5), .val (.int (1 : Int32)), .val (.ref x_68), .val w71, .val w76, .val w81, .val (.ref x_85), .val (.int (1 : Int32))] []))
          refine Ends.step (fun t k => XS.iload X117.here hx rfl (hb hby at_300) rfl k) ?_
          show Ends _ _ _ _ (T117.setTop (mkF m 302 #[.val (.int p1), .val (.int p2), .val (.int p3), .val (.int p4), .val (.int p5), .val (.int (1 : Int32)), .val (.ref x_68), .val w71, .val w76, .val w81, .val (.ref x_85), .val (.int (1 : Int32))] [(.int (1 : Int32))]))
          refine Ends.step (fun t k => XS.ifNo X117.here hx rfl (hb hby at_302) rfl ((if0 _ _).trans (feq (by decide : ¬ ((1 : Int32) = (0 : Int32)))).1) k) ?_
          show Ends _ _ _ _ (T117.setTop (mkF m 305 #[.val (.int p1), .val (.int p2), .val (.int p3), .val (.int p4), .val (.int p5), .val (.int (1 : Int32)), .val (.ref x_68), .val w71, .val w76, .val w81, .val (.ref x_85), .val (.int (1 : Int32))] []))
          refine Ends.step (fun t k => XS.aload X117.here hx rfl (hb hby at_305) rfl rfl k) ?_
          show Ends _ _ _ _ (T117.setTop (mkF m 307 #[.val (.int p1), .val (.int p2), .val (.int p3), .val (.int p4), .val (.int p5), .val (.int (1 : Int32)), .val (.ref x_68), .val w71, .val w76, .val w81, .val (.ref x_85), .val (.int (1 : Int32))] [(.ref x_85)]))
          have F118 : Fld Z T100.heap x_85 "com/example/operatory/operatory/fhir/SearchValue$Alternative" "missing" "Ljava/lang/Boolean;" .null := (((f85_14.keep K88 nin0).keep K95 nin0).keep K100 nin0)
          obtain ⟨cq119, kq119, q119a, q119b, q119c⟩ := isOf hZ83 eh117 F103
          obtain ⟨_, _, ⟨T119, L119, k119, n119⟩, -, X119, ⟨Lc119, hQ119, l119, y119, z119⟩, st119⟩ := X117.virtualBack hx (y := (⟨"com/example/operatory/operatory/fhir/SearchValue$Alternative", "missing", "()Ljava/util/Optional;"⟩ : MethodName)) (z := (⟨"com/example/operatory/operatory/fhir/SearchValue$Alternative", "missing", "()Ljava/util/Optional;"⟩ : MethodName)) hown83 (mvT hZ83 (hw _ (List.mem_of_getElem? (i := 126) rfl))) (mvT hZ83 (hw _ (List.mem_of_getElem? (i := 127) rfl))) (notFace_of_selects (args := #[]) (mvT hZ83 (hw _ (List.mem_of_getElem? (i := 129) rfl)))) (mvT hZ83 (hw _ (List.mem_of_getElem? (i := 129) rfl))) (mvT hZ83 (hw _ (List.mem_of_getElem? (i := 128) rfl))) (by decide) (backOf (W := 0) (rmGn_missing l Z a0 hw [] x_85 T100.heap n0 (Nat.le_trans Z0 (Nat.le_trans (Nat.le_trans (Nat.le_trans (Nat.le_trans (Nat.le_trans (Nat.le_trans (Nat.le_trans K68.1 K73.1) K78.1) K83.1) K85.1) K88.1) K95.1) K100.1)) G1 O2 P5 eA SE XE FE F101 F118) hZ83 (hw _ (List.mem_of_getElem? (i := 130) rfl)) (hw _ (List.mem_of_getElem? (i := 28) rfl)) (by decide) (by decide)) q119a q119c (g := (mkF m 307 #[.val (.int p1), .val (.int p2), .val (.int p3), .val (.int p4), .val (.int p5), .val (.int (1 : Int32)), .val (.ref x_68), .val w71, .val w76, .val w81, .val (.ref x_85), .val (.int (1 : Int32))] [(.ref x_85)])) rfl (by rw [hml]; rfl) (Steps.refl _) (argsL := []) (rest := []) (lenOf pd_8 rfl) rfl (by show 2 * 0 + _ ≤ _; exact Nat.le_of_eq rfl) (hb hby at_307) (fun _ _ => ⟨rfl, eh117, (by decide : 20 + 0 ≤ _), (by decide : 48 + 0 ≤ _)⟩)
          dsimp only [Pt.U, Pt.locs, Pt.cells, Pt.slots] at X119 l119 y119 z119 st119 hQ119
          subst l119 y119 z119
          obtain ⟨rfl, Nq119, eh119⟩ := hQ119
          have N119 := Fr.app N117 Nq119
          refine Ends.go st119 ?_
          show Ends _ _ _ _ (T119.setTop (mkF m 310 #[.val (.int p1), .val (.int p2), .val (.int p3), .val (.int p4), .val (.int p5), .val (.int (1 : Int32)), .val (.ref x_68), .val w71, .val w76, .val w81, .val (.ref x_85), .val (.int (1 : Int32))] [(.ref eA)]))
          refine Ends.step (fun t k => XS.aconstNull X119.here hx rfl (hb hby at_310) k) ?_
          show Ends _ _ _ _ (T119.setTop (mkF m 311 #[.val (.int p1), .val (.int p2), .val (.int p3), .val (.int p4), .val (.int p5), .val (.int (1 : Int32)), .val (.ref x_68), .val w71, .val w76, .val w81, .val (.ref x_85), .val (.int (1 : Int32))] [.null, (.ref eA)]))
          obtain ⟨cq120, kq120, q120a, q120b, q120c⟩ := isOf hZ83 eh119 F106
          obtain ⟨_, _, ⟨T120, L120, k120, n120⟩, -, X120, ⟨Lc120, hQ120, l120, y120, z120⟩, st120⟩ := X119.virtualBack hx (y := (⟨"java/util/Optional", "orElse", "(Ljava/lang/Object;)Ljava/lang/Object;"⟩ : MethodName)) (z := (⟨"java/util/Optional", "orElse", "(Ljava/lang/Object;)Ljava/lang/Object;"⟩ : MethodName)) hown83 (mvT hZ83 (hw _ (List.mem_of_getElem? (i := 85) rfl))) (mvT hZ83 (hw _ (List.mem_of_getElem? (i := 86) rfl))) (notFace_of_selects (args := #[]) (mvT hZ83 (hw _ (List.mem_of_getElem? (i := 88) rfl)))) (mvT hZ83 (hw _ (List.mem_of_getElem? (i := 88) rfl))) (mvT hZ83 (hw _ (List.mem_of_getElem? (i := 87) rfl))) (by decide) (backOf (W := 0) (rmOpElG l Z a0 hw [] eA .null T100.heap n0 (Nat.le_trans Z0 (Nat.le_trans (Nat.le_trans (Nat.le_trans (Nat.le_trans (Nat.le_trans (Nat.le_trans (Nat.le_trans K68.1 K73.1) K78.1) K83.1) K85.1) K88.1) K95.1) K100.1)) G1 O2 P5 eA SE XE FE F101 F107 rfl) hZ83 (hw _ (List.mem_of_getElem? (i := 89) rfl)) (hw _ (List.mem_of_getElem? (i := 74) rfl)) (by decide) (by decide)) q120a q120c (g := (mkF m 311 #[.val (.int p1), .val (.int p2), .val (.int p3), .val (.int p4), .val (.int p5), .val (.int (1 : Int32)), .val (.ref x_68), .val w71, .val w76, .val w81, .val (.ref x_85), .val (.int (1 : Int32))] [.null, (.ref eA)])) rfl (by rw [hml]; rfl) (Steps.refl _) (argsL := [.null]) (rest := []) (lenOf pd_9 rfl) rfl (by show 2 * 0 + _ ≤ _; exact Nat.le_of_eq rfl) (hb hby at_311) (fun _ _ => ⟨rfl, eh119, (by decide : 20 + 0 ≤ _), (by decide : 48 + 0 ≤ _)⟩)
          dsimp only [Pt.U, Pt.locs, Pt.cells, Pt.slots] at X120 l120 y120 z120 st120 hQ120
          subst l120 y120 z120
          obtain ⟨rfl, Nq120, eh120⟩ := hQ120
          have N120 := Fr.app N119 Nq120
          refine Ends.go st120 ?_
          show Ends _ _ _ _ (T120.setTop (mkF m 314 #[.val (.int p1), .val (.int p2), .val (.int p3), .val (.int p4), .val (.int p5), .val (.int (1 : Int32)), .val (.ref x_68), .val w71, .val w76, .val w81, .val (.ref x_85), .val (.int (1 : Int32))] [.null]))
          refine Ends.step (fun t k => XS.ifnonnullNo X120.here hx rfl (hb hby at_314) rfl k) ?_
          show Ends _ _ _ _ (T120.setTop (mkF m 317 #[.val (.int p1), .val (.int p2), .val (.int p3), .val (.int p4), .val (.int p5), .val (.int (1 : Int32)), .val (.ref x_68), .val w71, .val w76, .val w81, .val (.ref x_85), .val (.int (1 : Int32))] []))
          refine Ends.step (fun t k => XS.iconst X120.here hx rfl (hb hby at_317) k) ?_
          show Ends _ _ _ _ (T120.setTop (mkF m 318 #[.val (.int p1), .val (.int p2), .val (.int p3), .val (.int p4), .val (.int p5), .val (.int (1 : Int32)), .val (.ref x_68), .val w71, .val w76, .val w81, .val (.ref x_85), .val (.int (1 : Int32))] [(.int (1 : Int32))]))
          refine Ends.step (fun t k => XS.goto X120.here hx rfl (pc0 := 318) (pc' := 322) rfl (hb hby at_318) (by decide) (by decide) k) ?_
          show Ends _ _ _ _ (T120.setTop (mkF m 322 #[.val (.int p1), .val (.int p2), .val (.int p3), .val (.int p4), .val (.int p5), .val (.int (1 : Int32)), .val (.ref x_68), .val w71, .val w76, .val w81, .val (.ref x_85), .val (.int (1 : Int32))] [(.int (1 : Int32))]))
          refine Ends.step (fun t k => XS.istore X120.here hx rfl (hb hby at_322) rfl (l' := #[.val (.int p1), .val (.int p2), .val (.int p3), .val (.int p4), .val (.int p5), .val (.int (1 : Int32)), .val (.ref x_68), .val w71, .val w76, .val w81, .val (.ref x_85), .val (.int (1 : Int32))]) rfl k) ?_
          show Ends _ _ _ _ (T120.setTop (mkF m 324 #[.val (.int p1), .val (.int p2), .val (.int p3), .val (.int p4), .val (.int p5), .val (.int (1 : Int32)), .val (.ref x_68), .val w71, .val w76, .val w81, .val (.ref x_85), .val (.int (1 : Int32))] []))
          refine Ends.step (fun t k => XS.iload X120.here hx rfl (hb hby at_324) rfl k) ?_
          show Ends _ _ _ _ (T120.setTop (mkF m 326 #[.val (.int p1), .val (.int p2), .val (.int p3), .val (.int p4), .val (.int p5), .val (.int (1 : Int32)), .val (.ref x_68), .val w71, .val w76, .val w81, .val (.ref x_85), .val (.int (1 : Int32))] [(.int (1 : Int32))]))
          have CR121 := own_chrK CR83 K85
          have CR122 := own_chrK CR121 K88
          have CR123 := own_chrK CR122 K95
          have CR124 := own_chrK CR123 K100
          exact own_finIW X120 hS83 hx hlk hh (own_hEL hw) (Nat.le_trans hk83 (Nat.le_trans (Nat.le_trans (Nat.le_trans K85.1 K88.1) K95.1) K100.1)) CR124 hZ83 (t := .boolean) Bd.returns (by simp) rfl (hb hby at_326) eh120 ⟨rfl, N120, (((((((((Keep.refl h0 []).trans K68 all0).trans K73 all0).trans K78 all0).trans K83 all0).trans K85 all0).trans K88 all0).trans K95 all0).trans K100 all0)⟩ (by decide) (by decide)
        by_cases c125 : (p5 &&& (8 : Int32)) = (0 : Int32)
        · refine Ends.step (fun t k => XS.ifYes X78.here hx rfl (pc0 := 59) (pc' := 66) rfl (hb hby at_59) rfl ((if0 _ _).trans (teq c125).1) (by decide) (by decide) k) ?_
          show Ends _ _ _ _ (T78.setTop (mkF m 66 #[.val (.int p1), .val (.int p2), .val (.int p3), .val (.int p4), .val (.int p5), .val (.int (1 : Int32)), .val (.ref x_68), .val w71, .val w76, .unset, .unset, .unset] []))
          refine Ends.step (fun t k => XS.iloadN X78.here hx rfl (hb hby at_66) rfl k) ?_
          show Ends _ _ _ _ (T78.setTop (mkF m 67 #[.val (.int p1), .val (.int p2), .val (.int p3), .val (.int p4), .val (.int p5), .val (.int (1 : Int32)), .val (.ref x_68), .val w71, .val w76, .unset, .unset, .unset] [(.int p4)]))
          have F126 : Old Z n0 h78 := (((X00.keep K68 all0).keep K73 all0).keep K78 all0)
          obtain ⟨_, _, ⟨T127, L127, k127, n127⟩, -, Xs127, hs127, hg127, ⟨Lc127, hQ127, l127, y127, z127, CRc127⟩, st127⟩ := callSS X78 hx (y := (⟨"com/example/operatory/operatory/fhir/AlternativeOfTokenPinLaw", "str", "(I)Ljava/lang/String;"⟩ : MethodName)) hown78 (mvT hZ78 (hw _ (List.mem_of_getElem? (i := 0) rfl))) (mvT hZ78 (hw _ (List.mem_of_getElem? (i := 1) rfl))) (mvT hZ78 (hw _ (List.mem_of_getElem? (i := 2) rfl))) (mvT hZ78 (hw _ (List.mem_of_getElem? (i := 3) rfl))) (by decide) (backOfSH (s := s) (vm0 := vm78) (W := 0) (rmStr l Z a0 hw [] p4 h78 n0 (Nat.le_trans Z0 (Nat.le_trans (Nat.le_trans K68.1 K73.1) K78.1)) G1 O2 P5 eA SE XE FE F126 ) hZ78 (hw _ (List.mem_of_getElem? (i := 3) rfl)) (hw _ (List.mem_of_getElem? (i := 2) rfl)) (by decide) (by decide) (own_hEL hw) CR78.1) (g := (mkF m 67 #[.val (.int p1), .val (.int p2), .val (.int p3), .val (.int p4), .val (.int p5), .val (.int (1 : Int32)), .val (.ref x_68), .val w71, .val w76, .unset, .unset, .unset] [(.int p4)])) rfl (by rw [hml]; rfl) (argsL := [(.int p4)]) (rest := []) (lenOf pd_5 rfl) rfl (by show 2 * 0 + _ ≤ _; exact Nat.le_of_eq rfl) (hb hby at_67) (fun _ _ => ⟨rfl, e78, (by decide : 12 + 4 ≤ _), (by decide : 24 + 8 ≤ _)⟩)
          dsimp only [Pt.U, Pt.locs, Pt.cells, Pt.slots] at Xs127 hs127 hg127 l127 y127 z127 st127 hQ127 CRc127
          subst l127 y127 z127
          obtain ⟨X127, hS127, hZ127, hown127⟩ := rebS hS78 (Nat.le_trans hk78 (Nat.le_of_eq (congrArg Array.size (Eq.symm e78)))) Xs127 hs127 hg127 hZ78 hown78
          have CR127 := CR78.trans CRc127
          obtain ⟨x_127, rfl, Nq127, K127, f127_0, f127_1⟩ := hQ127
          have N127 := Fr.app N78 Nq127
          refine Ends.go st127 ?_
          exact J82 (.ref x_127) T127.vm T127 T127.heap _ (own_mono X127 (by decide) (by decide)) rfl N127 ((Keep.refl h78 []).trans K127 all0) _ hZ127 hown127 hS127 (Nat.le_refl _) CR127 rfl
        · refine Ends.step (fun t k => XS.ifNo X78.here hx rfl (hb hby at_59) rfl ((if0 _ _).trans (feq c125).1) k) ?_
          show Ends _ _ _ _ (T78.setTop (mkF m 62 #[.val (.int p1), .val (.int p2), .val (.int p3), .val (.int p4), .val (.int p5), .val (.int (1 : Int32)), .val (.ref x_68), .val w71, .val w76, .unset, .unset, .unset] []))
          refine Ends.step (fun t k => XS.aconstNull X78.here hx rfl (hb hby at_62) k) ?_
          show Ends _ _ _ _ (T78.setTop (mkF m 63 #[.val (.int p1), .val (.int p2), .val (.int p3), .val (.int p4), .val (.int p5), .val (.int (1 : Int32)), .val (.ref x_68), .val w71, .val w76, .unset, .unset, .unset] [.null]))
          refine Ends.step (fun t k => XS.goto X78.here hx rfl (pc0 := 63) (pc' := 70) rfl (hb hby at_63) (by decide) (by decide) k) ?_
          exact J82 .null vm78 T78 h78 _ (own_mono X78 (by decide) (by decide)) e78 N78 (Keep.refl h78 []) _ hZ78 hown78 hS78 hk78 CR78 rfl
      by_cases c128 : (p5 &&& (4 : Int32)) = (0 : Int32)
      · refine Ends.step (fun t k => XS.ifYes X73.here hx rfl (pc0 := 41) (pc' := 48) rfl (hb hby at_41) rfl ((if0 _ _).trans (teq c128).1) (by decide) (by decide) k) ?_
        show Ends _ _ _ _ (T73.setTop (mkF m 48 #[.val (.int p1), .val (.int p2), .val (.int p3), .val (.int p4), .val (.int p5), .val (.int (1 : Int32)), .val (.ref x_68), .val w71, .unset, .unset, .unset, .unset] []))
        refine Ends.step (fun t k => XS.iloadN X73.here hx rfl (hb hby at_48) rfl k) ?_
        show Ends _ _ _ _ (T73.setTop (mkF m 49 #[.val (.int p1), .val (.int p2), .val (.int p3), .val (.int p4), .val (.int p5), .val (.int (1 : Int32)), .val (.ref x_68), .val w71, .unset, .unset, .unset, .unset] [(.int p3)]))
        have F129 : Old Z n0 h73 := ((X00.keep K68 all0).keep K73 all0)
        obtain ⟨_, _, ⟨T130, L130, k130, n130⟩, -, Xs130, hs130, hg130, ⟨Lc130, hQ130, l130, y130, z130, CRc130⟩, st130⟩ := callSS X73 hx (y := (⟨"com/example/operatory/operatory/fhir/AlternativeOfTokenPinLaw", "str", "(I)Ljava/lang/String;"⟩ : MethodName)) hown73 (mvT hZ73 (hw _ (List.mem_of_getElem? (i := 0) rfl))) (mvT hZ73 (hw _ (List.mem_of_getElem? (i := 1) rfl))) (mvT hZ73 (hw _ (List.mem_of_getElem? (i := 2) rfl))) (mvT hZ73 (hw _ (List.mem_of_getElem? (i := 3) rfl))) (by decide) (backOfSH (s := s) (vm0 := vm73) (W := 0) (rmStr l Z a0 hw [] p3 h73 n0 (Nat.le_trans Z0 (Nat.le_trans K68.1 K73.1)) G1 O2 P5 eA SE XE FE F129 ) hZ73 (hw _ (List.mem_of_getElem? (i := 3) rfl)) (hw _ (List.mem_of_getElem? (i := 2) rfl)) (by decide) (by decide) (own_hEL hw) CR73.1) (g := (mkF m 49 #[.val (.int p1), .val (.int p2), .val (.int p3), .val (.int p4), .val (.int p5), .val (.int (1 : Int32)), .val (.ref x_68), .val w71, .unset, .unset, .unset, .unset] [(.int p3)])) rfl (by rw [hml]; rfl) (argsL := [(.int p3)]) (rest := []) (lenOf pd_5 rfl) rfl (by show 2 * 0 + _ ≤ _; exact Nat.le_of_eq rfl) (hb hby at_49) (fun _ _ => ⟨rfl, e73, (by decide : 8 + 4 ≤ _), (by decide : 16 + 8 ≤ _)⟩)
        dsimp only [Pt.U, Pt.locs, Pt.cells, Pt.slots] at Xs130 hs130 hg130 l130 y130 z130 st130 hQ130 CRc130
        subst l130 y130 z130
        obtain ⟨X130, hS130, hZ130, hown130⟩ := rebS hS73 (Nat.le_trans hk73 (Nat.le_of_eq (congrArg Array.size (Eq.symm e73)))) Xs130 hs130 hg130 hZ73 hown73
        have CR130 := CR73.trans CRc130
        obtain ⟨x_130, rfl, Nq130, K130, f130_0, f130_1⟩ := hQ130
        have N130 := Fr.app N73 Nq130
        refine Ends.go st130 ?_
        exact J77 (.ref x_130) T130.vm T130 T130.heap _ (own_mono X130 (by decide) (by decide)) rfl N130 ((Keep.refl h73 []).trans K130 all0) _ hZ130 hown130 hS130 (Nat.le_refl _) CR130 rfl
      · refine Ends.step (fun t k => XS.ifNo X73.here hx rfl (hb hby at_41) rfl ((if0 _ _).trans (feq c128).1) k) ?_
        show Ends _ _ _ _ (T73.setTop (mkF m 44 #[.val (.int p1), .val (.int p2), .val (.int p3), .val (.int p4), .val (.int p5), .val (.int (1 : Int32)), .val (.ref x_68), .val w71, .unset, .unset, .unset, .unset] []))
        refine Ends.step (fun t k => XS.aconstNull X73.here hx rfl (hb hby at_44) k) ?_
        show Ends _ _ _ _ (T73.setTop (mkF m 45 #[.val (.int p1), .val (.int p2), .val (.int p3), .val (.int p4), .val (.int p5), .val (.int (1 : Int32)), .val (.ref x_68), .val w71, .unset, .unset, .unset, .unset] [.null]))
        refine Ends.step (fun t k => XS.goto X73.here hx rfl (pc0 := 45) (pc' := 52) rfl (hb hby at_45) (by decide) (by decide) k) ?_
        exact J77 .null vm73 T73 h73 _ (own_mono X73 (by decide) (by decide)) e73 N73 (Keep.refl h73 []) _ hZ73 hown73 hS73 hk73 CR73 rfl
    by_cases c131 : (p5 &&& (2 : Int32)) = (0 : Int32)
    · refine Ends.step (fun t k => XS.ifYes X68.here hx rfl (pc0 := 24) (pc' := 31) rfl (hb hby at_24) rfl ((if0 _ _).trans (teq c131).1) (by decide) (by decide) k) ?_
      show Ends _ _ _ _ (T68.setTop (mkF m 31 #[.val (.int p1), .val (.int p2), .val (.int p3), .val (.int p4), .val (.int p5), .val (.int (1 : Int32)), .val (.ref x_68), .unset, .unset, .unset, .unset, .unset] []))
      refine Ends.step (fun t k => XS.iloadN X68.here hx rfl (hb hby at_31) rfl k) ?_
      show Ends _ _ _ _ (T68.setTop (mkF m 32 #[.val (.int p1), .val (.int p2), .val (.int p3), .val (.int p4), .val (.int p5), .val (.int (1 : Int32)), .val (.ref x_68), .unset, .unset, .unset, .unset, .unset] [(.int p2)]))
      have F132 : Old Z n0 T68.heap := (X00.keep K68 all0)
      obtain ⟨_, _, ⟨T133, L133, k133, n133⟩, -, Xs133, hs133, hg133, ⟨Lc133, hQ133, l133, y133, z133, CRc133⟩, st133⟩ := callSS X68 hx (y := (⟨"com/example/operatory/operatory/fhir/AlternativeOfTokenPinLaw", "str", "(I)Ljava/lang/String;"⟩ : MethodName)) hown68 (mvT hZ68 (hw _ (List.mem_of_getElem? (i := 0) rfl))) (mvT hZ68 (hw _ (List.mem_of_getElem? (i := 1) rfl))) (mvT hZ68 (hw _ (List.mem_of_getElem? (i := 2) rfl))) (mvT hZ68 (hw _ (List.mem_of_getElem? (i := 3) rfl))) (by decide) (backOfSH (s := s) (vm0 := T68.vm) (W := 0) (rmStr l Z a0 hw [] p2 T68.heap n0 (Nat.le_trans Z0 K68.1) G1 O2 P5 eA SE XE FE F132 ) hZ68 (hw _ (List.mem_of_getElem? (i := 3) rfl)) (hw _ (List.mem_of_getElem? (i := 2) rfl)) (by decide) (by decide) (own_hEL hw) CR68.1) (g := (mkF m 32 #[.val (.int p1), .val (.int p2), .val (.int p3), .val (.int p4), .val (.int p5), .val (.int (1 : Int32)), .val (.ref x_68), .unset, .unset, .unset, .unset, .unset] [(.int p2)])) rfl (by rw [hml]; rfl) (argsL := [(.int p2)]) (rest := []) (lenOf pd_5 rfl) rfl (by show 2 * 0 + _ ≤ _; exact Nat.le_of_eq rfl) (hb hby at_32) (fun _ _ => ⟨rfl, rfl, (by decide : 4 + 4 ≤ _), (by decide : 8 + 8 ≤ _)⟩)
      dsimp only [Pt.U, Pt.locs, Pt.cells, Pt.slots] at Xs133 hs133 hg133 l133 y133 z133 st133 hQ133 CRc133
      subst l133 y133 z133
      obtain ⟨X133, hS133, hZ133, hown133⟩ := rebS hS68 (Nat.le_trans (Nat.le_refl _) (Nat.le_of_eq (congrArg Array.size (Eq.symm rfl)))) Xs133 hs133 hg133 hZ68 hown68
      have CR133 := CR68.trans CRc133
      obtain ⟨x_133, rfl, Nq133, K133, f133_0, f133_1⟩ := hQ133
      have N133 := Fr.app N68 Nq133
      refine Ends.go st133 ?_
      exact J72 (.ref x_133) T133.vm T133 T133.heap _ (own_mono X133 (by decide) (by decide)) rfl N133 ((Keep.refl T68.heap []).trans K133 all0) _ hZ133 hown133 hS133 (Nat.le_refl _) CR133 rfl
    · refine Ends.step (fun t k => XS.ifNo X68.here hx rfl (hb hby at_24) rfl ((if0 _ _).trans (feq c131).1) k) ?_
      show Ends _ _ _ _ (T68.setTop (mkF m 27 #[.val (.int p1), .val (.int p2), .val (.int p3), .val (.int p4), .val (.int p5), .val (.int (1 : Int32)), .val (.ref x_68), .unset, .unset, .unset, .unset, .unset] []))
      refine Ends.step (fun t k => XS.aconstNull X68.here hx rfl (hb hby at_27) k) ?_
      show Ends _ _ _ _ (T68.setTop (mkF m 28 #[.val (.int p1), .val (.int p2), .val (.int p3), .val (.int p4), .val (.int p5), .val (.int (1 : Int32)), .val (.ref x_68), .unset, .unset, .unset, .unset, .unset] [.null]))
      refine Ends.step (fun t k => XS.goto X68.here hx rfl (pc0 := 28) (pc' := 35) rfl (hb hby at_28) (by decide) (by decide) k) ?_
      exact J72 .null T68.vm T68 T68.heap _ (own_mono X68 (by decide) (by decide)) rfl N68 (Keep.refl T68.heap []) _ hZ68 hown68 hS68 (Nat.le_refl _) CR68 rfl
set_option maxRecDepth 65536 in
set_option maxHeartbeats 40000000 in
theorem comes_1 {Post : Tables → Env → Array Value → State → Outcome → State → Prop} (hpost : ∀ tb e args s v u, (limb_1_1.after args s (.returned v) u = true ∧ limb_1_2.after args s (.returned v) u = true ∧ True) → ReturnedEndW s (.returned v) u (Jvm.fieldLocs frame_1_writes args s ++ Jvm.arrayLocs frame_1_arrays args s ++ Jvm.staticLocs frame_1_statics s) 48 1216 → Post tb e args s (.returned v) u) :
    ArmFor flags0 classFile x code maxLocals ret World_1 tables_1 room_1 Calls_1 rest_1 Pre_1 Post := by
  intro l hfl _ _ p e ha hc hk s m args below hf hA hF happ hP
  obtain ⟨hcalls, hrest, hpre⟩ := hP
  obtain ⟨-, -, -, hnamed, -, -, -, hat⟩ := (Spec.applies_iff hf).mp happ
  obtain ⟨hg, hn⟩ := and_e (Cond.before_iff.mp (show (Jvm.Cond.and given_1 narrow_1).before args s = true from hpre))
  obtain ⟨hcount, hg1⟩ := and_e hg
  obtain ⟨w0, w1, w2, w3, w4, rfl⟩ : ∃ w0 w1 w2 w3 w4 : Value, args = #[w0, w1, w2, w3, w4] := by
    have hs : args.size = 5 := by simpa [Cond.value, given_1] using hcount
    obtain ⟨L⟩ := args
    match L, hs with
    | [w0, w1, w2, w3, w4], _ => exact ⟨w0, w1, w2, w3, w4, rfl⟩
  have hw := fun d (hd : d ∈ tables_1) => atoms_spec (ws := Jvm.Cond.code x code maxLocals ret :: tables_1) hat d (List.mem_cons_of_mem _ hd)
  have hfit : Fit s := fun {y c} hc i hi => by
    obtain ⟨ha, rfl⟩ := Array.getElem?_eq_some_iff.mp hc
    have q := List.all_eq_true.mp ((Array.all_eq_true_iff_forall_mem.mp hF) _ (Array.getElem_mem ha)) i (List.mem_range.mpr hi)
    simpa [Array.getElem?_eq_getElem hi] using q
  obtain ⟨ga0, hg2⟩ := and_e hg1
  obtain ⟨i0, ei0⟩ := is_v ga0
  obtain rfl : w0 = (.int i0) := Option.some.inj ei0
  obtain ⟨ga1, hg3⟩ := and_e hg2
  obtain ⟨i1, ei1⟩ := is_v ga1
  obtain rfl : w1 = (.int i1) := Option.some.inj ei1
  obtain ⟨ga2, hg4⟩ := and_e hg3
  obtain ⟨i2, ei2⟩ := is_v ga2
  obtain rfl : w2 = (.int i2) := Option.some.inj ei2
  obtain ⟨ga3, hg5⟩ := and_e hg4
  obtain ⟨i3, ei3⟩ := is_v ga3
  obtain rfl : w3 = (.int i3) := Option.some.inj ei3
  obtain ⟨i4, ei4⟩ := is_v hg5
  obtain rfl : w4 = (.int i4) := Option.some.inj ei4
  obtain ⟨hsets, hown0⟩ := atoms_of _ (rest_1_c_eq ▸ (show rest_1_c.before _ s = true from hrest))
  have nCS := not_v (Cond.before_iff.mp (hsets _ (List.mem_of_getElem? (i := 6) rfl)))
  obtain ⟨iCS, eCS⟩ := is_v (Cond.before_iff.mp (hsets _ (List.mem_of_getElem? (i := 5) rfl)))
  have SCS : Sta s s.heap "java/lang/String" "COMPACT_STRINGS" "Z" (.int iCS) := Sta.start eCS (Or.inl (hsets _ (List.mem_of_getElem? (i := 4) rfl)))
  have cCS : ¬ (iCS = (0 : Int32)) := gotF (Cond.eq_ints eCS (Term.int_eval (0))) nCS
  obtain ⟨aE, evE⟩ := exa_v (Cond.before_iff.mp (hsets _ (List.mem_of_getElem? (i := 2) rfl)))
  have SE : Sta s s.heap "java/util/Optional" "EMPTY" "Ljava/util/Optional;" (.ref aE) := Sta.start evE (Or.inl (hsets _ (List.mem_of_getElem? (i := 1) rfl)))
  have XE : Exa s s.heap aE "java/util/Optional" := Exa.start evE (Cond.before_iff.mp (hsets _ (List.mem_of_getElem? (i := 2) rfl)))
  have FE : Fld s s.heap aE "java/util/Optional" "value" "Ljava/lang/Object;" .null := Fld.start ((fld_at evE).symm.trans (null_v (Cond.before_iff.mp (hsets _ (List.mem_of_getElem? (i := 3) rfl)))))
  have CH0 : CHv s consts_1 s.vm s.heap := CHv.start (own_hEL hw) (fun p hp => hcalls.1 p hp) (show Jvm.Lit.compactW.before _ s = true from (hsets _ (List.mem_of_getElem? (i := 6) rfl))) (hw _ (List.mem_of_getElem? (i := 19) rfl)) (hw _ (List.mem_of_getElem? (i := 5) rfl))
  obtain ⟨n, o, h1, h2, h3, _, L, rfl, ⟨rfl, N, _⟩, _, hq⟩ := rm0 l s _ hw tables_1 i0 i1 i2 i3 i4 s.heap s.heap.size (Nat.le_refl _) iCS SCS cCS aE SE XE FE (Old.start s) p e ha hc hk s m _ below hf ((Spec.applies_iff_loose hf).mp happ).1 ⟨rfl, State.Warmed39.refl s, rfl, CH0⟩ trivial
  refine ⟨n, _, h1, h2, h3, hpost _ _ _ _ _ _ ⟨Cond.after_iff.mpr rfl, Cond.after_iff.mpr (eq_i res_at (Term.int_eval (1)) rfl), trivial⟩ ⟨hq.1, hq.2.1, hq.2.2.1, (hq.2.2.2.sift fun y hy => Or.inr (N y hy)).mono (by decide) (by decide)⟩⟩
theorem main_1_1 : Claimed_1_1 := comes_1 fun _ _ _ _ _ _ h hF => ⟨h.1, hF⟩
theorem main_1_2 : Claimed_1_2 := comes_1 fun _ _ _ _ _ _ h hF => ⟨h.2.1, hF⟩
end Jvm.Pilot.@@N@@
namespace Jvm.Pilot.@@N@@
open Jvm Jvm.ClassFile Sem Op Lib Jvm.Free Jvm.Stand Jvm.Pilot.@@N@@.Jvm.D
/-! MADE BY PROGRAM (witnessworld.py) out of the Statement's table words and the real class files: 21 classes; the members and pool entries that the words name. The judged class is class 1, her method 2. -/
namespace start1
open Jvm.ClassFile
def u (s : String) : CpInfo := .utf8 (stringToUtf16 s)
/-- a pool by its gaps: so many unusable entries, then the entry; so many at the end -/
def gap : Nat → List CpInfo → List CpInfo
  | 0, r => r
  | n + 1, r => .unusable :: gap n r
def poolList (es : List (Nat × CpInfo)) (last : Nat) : List CpInfo := es.foldr (fun e r => gap e.1 (e.2 :: r)) (gap last [])
def pool (es : List (Nat × CpInfo)) (last : Nat) : Array CpInfo := ⟨poolList es last⟩
def fileOf (pool : Array CpInfo) (this : Nat) (attrs : Array Attribute := #[]) (ms : Array MethodInfo := #[]) (fl : Nat := 33) (sup : Nat := 0) (ifs : Array Nat := #[]) (fds : Array FieldInfo := #[]) : ClassFile where
  minorVersion := 0
  majorVersion := 65
  constantPool := pool
  accessFlags := fl
  thisClass := this
  superClass := sup
  interfaces := ifs
  fields := fds
  methods := ms
  attributes := attrs
def plain (name : String) (sup : Option ClassId) : Class where
  name := name
  kind := .ordinary
  loader := none
  accessFlags := 33
  super := sup
  interfaces := #[]
  cf := none
  fields := #[]
  methods := #[]
  instanceTypes := #[]
  staticTypes := #[]
  resolved := #[]
  callSites := []
  init := .initialized
  statics := none
  mirror := none

def pool0 : Array CpInfo := pool [(5, u "<init>"), (0, u "()V"), (1, .class_ 10), (1, u "java/lang/Object")] 113

def k0c0 : Code := { maxStack := 0, maxLocals := 1, code := object_method_1_code, exceptionTable := #[], attributes := #[] }
def k0m0 : Method := { name := "<init>", desc := "()V", sig := { parameters := [], returnType := none }, accessFlags := 1, code := some k0c0 }
/-- java/lang/Object -/
def k0 : Class := { plain "java/lang/Object" none with
  accessFlags := 33
  interfaces := #[]
  cf := some (fileOf pool0 8 #[] #[{ accessFlags := 1, nameIndex := 5, descriptorIndex := 6, attributes := #[] }] 33 0 #[] #[])
  fields := #[]
  methods := #[k0m0]
  instanceTypes := #[]
  staticTypes := #[]
  resolved := Array.replicate 124 none
  statics := none }

def pool1 : Array CpInfo := pool [(2, .class_ 4), (1, u "java/lang/Object"), (0, u "<init>"), (0, u "()V"), (0, .class_ 8), (0, u "java/lang/String"), (0, .methodref 7 10), (0, .nameAndType 5 11), (0, u "([C)V"), (0, .methodref 13 14), (0, .class_ 15), (0, .nameAndType 16 17), (0, u "com/example/operatory/operatory/fhir/AlternativeOfTokenPinLaw"), (0, u "str"), (0, u "(I)Ljava/lang/String;"), (0, .methodref 19 20), (0, .class_ 21), (0, .nameAndType 22 23), (0, u "com/example/operatory/operatory/fhir/SearchValue$Alternative"), (0, u "ofToken"), (0, u "(Ljava/lang/String;Ljava/lang/String;ZLjava/lang/String;Ljava/lang/String;)Lcom/example/operatory/operatory/fhir/SearchValue$Alternative;"), (0, .methodref 19 25), (0, .nameAndType 26 27), (0, u "text"), (0, u "()Ljava/lang/String;"), (0, .methodref 19 29), (0, .nameAndType 30 31), (0, u "system"), (0, u "()Ljava/util/Optional;"), (0, .methodref 33 34), (0, .class_ 35), (0, .nameAndType 36 37), (0, u "java/util/Optional"), (0, u "orElse"), (0, u "(Ljava/lang/Object;)Ljava/lang/Object;"), (0, .methodref 19 39), (0, .nameAndType 40 41), (0, u "noSystem"), (0, u "()Z"), (0, .methodref 19 43), (0, .nameAndType 44 31), (0, u "code"), (0, .methodref 19 46), (0, .nameAndType 47 31), (0, u "value"), (0, .methodref 19 49), (0, .nameAndType 50 31), (0, u "prefix"), (0, .methodref 19 52), (0, .nameAndType 53 31), (0, u "number"), (0, .methodref 19 55), (0, .nameAndType 56 31), (0, u "type"), (0, .methodref 19 58), (0, .nameAndType 59 31), (0, u "url"), (0, .methodref 19 61), (0, .nameAndType 62 31), (0, u "missing"), (3, u "law"), (0, u "(IIIII)Z")] 6

def k1m0 : Method := { name := "<init>", desc := "()V", sig := { parameters := [], returnType := none }, accessFlags := 1, code := none }
def k1c1 : Code := { maxStack := 6, maxLocals := 4, code := method_2_code, exceptionTable := #[], attributes := #[] }
def k1m1 : Method := { name := "str", desc := "(I)Ljava/lang/String;", sig := { parameters := [.int], returnType := some (.object "java/lang/String") }, accessFlags := 10, code := some k1c1 }
def k1c2 : Code := { maxStack := 5, maxLocals := 12, code := code, exceptionTable := #[], attributes := #[] }
def k1m2 : Method := { name := "law", desc := "(IIIII)Z", sig := { parameters := [.int, .int, .int, .int, .int], returnType := some .boolean }, accessFlags := 9, code := some k1c2 }
/-- com/example/operatory/operatory/fhir/AlternativeOfTokenPinLaw -/
def k1 : Class := { plain "com/example/operatory/operatory/fhir/AlternativeOfTokenPinLaw" (some 0) with
  accessFlags := 49
  interfaces := #[]
  cf := some (fileOf pool1 13 #[] #[{ accessFlags := 1, nameIndex := 5, descriptorIndex := 6, attributes := #[] }, { accessFlags := 10, nameIndex := 16, descriptorIndex := 17, attributes := #[] }, { accessFlags := 9, nameIndex := 66, descriptorIndex := 67, attributes := #[] }] 49 2 #[] #[])
  fields := #[]
  methods := #[k1m0, k1m1, k1m2]
  instanceTypes := #[]
  staticTypes := #[]
  resolved := Array.replicate 74 none
  statics := none }

def pool2 : Array CpInfo := pool [(1, .class_ 2), (0, u "java/io/Serializable"), (0, .class_ 4), (0, u "java/lang/Object")] 2

/-- java/io/Serializable -/
def k2 : Class := { plain "java/io/Serializable" (some 0) with
  accessFlags := 1537
  interfaces := #[]
  cf := some (fileOf pool2 1 #[] #[] 1537 3 #[] #[])
  fields := #[]
  methods := #[]
  instanceTypes := #[]
  staticTypes := #[]
  resolved := Array.replicate 7 none
  statics := none }

def pool3 : Array CpInfo := pool [(1, .class_ 2), (0, u "java/lang/Comparable"), (0, .class_ 4), (0, u "java/lang/Object")] 7

/-- java/lang/Comparable -/
def k3 : Class := { plain "java/lang/Comparable" (some 0) with
  accessFlags := 1537
  interfaces := #[]
  cf := some (fileOf pool3 1 #[] #[] 1537 3 #[] #[])
  fields := #[]
  methods := #[]
  instanceTypes := #[]
  staticTypes := #[]
  resolved := Array.replicate 12 none
  statics := none }

def pool4 : Array CpInfo := pool [(2, .class_ 4), (1, u "java/lang/CharSequence"), (42, .class_ 48), (0, u "java/lang/CharSequence$1CodePointIterator"), (10, .class_ 60), (0, u "java/lang/CharSequence$1CharIterator"), (5, .class_ 67), (0, u "java/lang/Object")] 63

/-- java/lang/CharSequence -/
def k4 : Class := { plain "java/lang/CharSequence" (some 0) with
  accessFlags := 1537
  interfaces := #[]
  cf := some (fileOf pool4 2 #[.nestMembers #[47, 59]] #[] 1537 66 #[] #[])
  fields := #[]
  methods := #[]
  instanceTypes := #[]
  staticTypes := #[]
  resolved := Array.replicate 131 none
  statics := none }

def pool5 : Array CpInfo := pool [(1, .class_ 2), (0, u "java/lang/constant/Constable"), (0, .class_ 4), (0, u "java/lang/Object")] 6

/-- java/lang/constant/Constable -/
def k5 : Class := { plain "java/lang/constant/Constable" (some 0) with
  accessFlags := 1537
  interfaces := #[]
  cf := some (fileOf pool5 1 #[] #[] 1537 3 #[] #[])
  fields := #[]
  methods := #[]
  instanceTypes := #[]
  staticTypes := #[]
  resolved := Array.replicate 11 none
  statics := none }

def pool6 : Array CpInfo := pool [(1, .class_ 2), (0, u "java/lang/constant/ConstantDesc"), (0, .class_ 4), (0, u "java/lang/Object")] 32

/-- java/lang/constant/ConstantDesc -/
def k6 : Class := { plain "java/lang/constant/ConstantDesc" (some 0) with
  accessFlags := 1537
  interfaces := #[]
  cf := some (fileOf pool6 1 #[] #[] 1537 3 #[] #[])
  fields := #[]
  methods := #[]
  instanceTypes := #[]
  staticTypes := #[]
  resolved := Array.replicate 37 none
  statics := none }

def pool7 : Array CpInfo := pool [(1, .methodref 2 3), (0, .class_ 4), (0, .nameAndType 5 6), (0, u "java/lang/Object"), (0, u "<init>"), (0, u "()V"), (0, .string 8), (0, u ""), (0, .fieldref 10 11), (0, .class_ 12), (0, .nameAndType 13 14), (0, u "java/lang/String"), (0, u "value"), (0, u "[B"), (0, .fieldref 10 16), (0, .nameAndType 17 18), (0, u "coder"), (0, u "B"), (2, u "hash"), (0, u "I"), (2, u "hashIsZero"), (0, u "Z"), (0, .methodref 10 28), (0, .nameAndType 5 29), (0, u "([CIILjava/lang/Void;)V"), (8, .fieldref 10 39), (0, .nameAndType 40 26), (0, u "COMPACT_STRINGS"), (1, .class_ 44), (1, u "java/lang/StringUTF16"), (0, u "compress"), (1, .methodref 42 48), (0, .nameAndType 49 50), (0, u "coderFromArrayLen"), (0, u "([BI)B"), (126, .methodref 42 178), (0, .nameAndType 45 179), (0, u "([CII)[B"), (395, .class_ 576), (0, u "java/lang/CharSequence"), (22, u "CASE_INSENSITIVE_ORDER"), (0, u "Ljava/util/Comparator;"), (409, u "([C)V"), (90, u "serialPersistentFields"), (0, u "[Ljava/io/ObjectStreamField;"), (0, .class_ 1104), (0, u "java/lang/String$CaseInsensitiveComparator"), (1, .class_ 1107), (0, u "java/io/Serializable"), (0, .class_ 1109), (0, u "java/lang/Comparable"), (0, .class_ 1111), (0, u "java/lang/constant/Constable"), (0, .class_ 1113), (0, u "java/lang/constant/ConstantDesc"), (2, u "serialVersionUID"), (0, u "J"), (3, u "REPL"), (0, u "C"), (2, u "LATIN1"), (1, u "UTF16")] 323

def k7m0 : Method := { name := "<init>", desc := "()V", sig := { parameters := [], returnType := none }, accessFlags := 1, code := none }
def k7c1 : Code := { maxStack := 5, maxLocals := 2, code := jdk_42_method_3_code, exceptionTable := #[], attributes := #[] }
def k7m1 : Method := { name := "<init>", desc := "([C)V", sig := { parameters := [(.array .char)], returnType := none }, accessFlags := 1, code := some k7c1 }
def k7c2 : Code := { maxStack := 4, maxLocals := 6, code := jdk_42_method_149_code, exceptionTable := #[], attributes := #[] }
def k7m2 : Method := { name := "<init>", desc := "([CIILjava/lang/Void;)V", sig := { parameters := [(.array .char), .int, .int, (.object "java/lang/Void")], returnType := none }, accessFlags := 2, code := some k7c2 }
/-- java/lang/String -/
def k7 : Class := { plain "java/lang/String" (some 0) with
  accessFlags := 49
  interfaces := #[2, 3, 4, 5, 6]
  cf := some (fileOf pool7 10 #[.nestMembers #[1103]] #[{ accessFlags := 1, nameIndex := 5, descriptorIndex := 6, attributes := #[] }, { accessFlags := 1, nameIndex := 5, descriptorIndex := 1010, attributes := #[] }, { accessFlags := 2, nameIndex := 5, descriptorIndex := 29, attributes := #[] }] 49 2 #[1106, 1108, 575, 1110, 1112] #[{ accessFlags := 18, nameIndex := 13, descriptorIndex := 14, attributes := #[] }, { accessFlags := 18, nameIndex := 17, descriptorIndex := 18, attributes := #[] }, { accessFlags := 2, nameIndex := 21, descriptorIndex := 22, attributes := #[] }, { accessFlags := 2, nameIndex := 25, descriptorIndex := 26, attributes := #[] }, { accessFlags := 26, nameIndex := 1116, descriptorIndex := 1117, attributes := #[] }, { accessFlags := 24, nameIndex := 40, descriptorIndex := 26, attributes := #[] }, { accessFlags := 26, nameIndex := 1101, descriptorIndex := 1102, attributes := #[] }, { accessFlags := 26, nameIndex := 1121, descriptorIndex := 1122, attributes := #[] }, { accessFlags := 25, nameIndex := 599, descriptorIndex := 600, attributes := #[] }, { accessFlags := 24, nameIndex := 1125, descriptorIndex := 18, attributes := #[] }, { accessFlags := 24, nameIndex := 1127, descriptorIndex := 18, attributes := #[] }])
  fields := #[{ name := "value", type := (.array .byte), accessFlags := 18, slot := 0, constantValue := 0 }, { name := "coder", type := .byte, accessFlags := 18, slot := 1, constantValue := 0 }, { name := "hash", type := .int, accessFlags := 2, slot := 2, constantValue := 0 }, { name := "hashIsZero", type := .boolean, accessFlags := 2, slot := 3, constantValue := 0 }, { name := "serialVersionUID", type := .long, accessFlags := 26, slot := 0, constantValue := 0 }, { name := "COMPACT_STRINGS", type := .boolean, accessFlags := 24, slot := 1, constantValue := 0 }, { name := "serialPersistentFields", type := (.array (.object "java/io/ObjectStreamField")), accessFlags := 26, slot := 2, constantValue := 0 }, { name := "REPL", type := .char, accessFlags := 26, slot := 3, constantValue := 0 }, { name := "CASE_INSENSITIVE_ORDER", type := (.object "java/util/Comparator"), accessFlags := 25, slot := 4, constantValue := 0 }, { name := "LATIN1", type := .byte, accessFlags := 24, slot := 5, constantValue := 0 }, { name := "UTF16", type := .byte, accessFlags := 24, slot := 6, constantValue := 0 }]
  methods := #[k7m0, k7m1, k7m2]
  instanceTypes := #[(.array .byte), .byte, .int, .boolean]
  staticTypes := #[.long, .boolean, (.array (.object "java/io/ObjectStreamField")), .char, (.object "java/util/Comparator"), .byte, .byte]
  resolved := Array.replicate 1451 none
  statics := some 0 }

def pool8 : Array CpInfo := pool [(1, .methodref 2 3), (0, .class_ 4), (0, .nameAndType 5 6), (0, u "java/lang/Object"), (0, u "<init>"), (0, u "()V"), (0, .fieldref 8 9), (0, .class_ 10), (0, .nameAndType 11 12), (0, u "com/example/operatory/operatory/fhir/SearchValue$Alternative"), (0, u "text"), (0, u "Ljava/lang/String;"), (0, .fieldref 8 14), (0, .nameAndType 15 16), (0, u "prefix"), (0, u "Lcom/example/operatory/operatory/fhir/SearchValue$Prefix;"), (0, .fieldref 8 18), (0, .nameAndType 19 20), (0, u "number"), (0, u "Ljava/math/BigDecimal;"), (0, .fieldref 8 22), (0, .nameAndType 23 12), (0, u "date"), (0, .fieldref 8 25), (0, .nameAndType 26 27), (0, u "precision"), (0, u "Lcom/example/operatory/operatory/fhir/SearchValue$Precision;"), (0, .fieldref 8 29), (0, .nameAndType 30 12), (0, u "system"), (0, .fieldref 8 32), (0, .nameAndType 33 34), (0, u "noSystem"), (0, u "Z"), (0, .fieldref 8 36), (0, .nameAndType 37 12), (0, u "code"), (0, .fieldref 8 39), (0, .nameAndType 40 12), (0, u "value"), (0, .fieldref 8 42), (0, .nameAndType 43 12), (0, u "type"), (0, .fieldref 8 45), (0, .nameAndType 46 12), (0, u "id"), (0, .fieldref 8 48), (0, .nameAndType 49 12), (0, u "url"), (0, .fieldref 8 51), (0, .nameAndType 52 53), (0, u "missing"), (0, u "Ljava/lang/Boolean;"), (0, .methodref 8 55), (0, .nameAndType 5 56), (0, u "(Ljava/lang/String;Lcom/example/operatory/operatory/fhir/SearchValue$Prefix;Ljava/math/BigDecimal;Ljava/lang/String;Lcom/example/operatory/operatory/fhir/SearchValue$Precision;Ljava/lang/String;ZLjava/lang/String;Ljava/lang/String;Ljava/lang/String;Ljava/lang/String;Ljava/lang/String;Ljava/lang/Boolean;)V"), (6, .methodref 64 65), (0, .class_ 66), (0, .nameAndType 67 68), (0, u "java/util/Optional"), (0, u "ofNullable"), (0, u "(Ljava/lang/Object;)Ljava/util/Optional;"), (10, u "ofToken"), (0, u "(Ljava/lang/String;Ljava/lang/String;ZLjava/lang/String;Ljava/lang/String;)Lcom/example/operatory/operatory/fhir/SearchValue$Alternative;"), (2, u "()Ljava/lang/String;"), (0, u "()Ljava/util/Optional;"), (5, u "()Z"), (4, .class_ 96), (0, u "com/example/operatory/operatory/fhir/SearchValue")] 8

def k8c0 : Code := { maxStack := 2, maxLocals := 14, code := prog_5_method_1_code, exceptionTable := #[], attributes := #[] }
def k8m0 : Method := { name := "<init>", desc := "(Ljava/lang/String;Lcom/example/operatory/operatory/fhir/SearchValue$Prefix;Ljava/math/BigDecimal;Ljava/lang/String;Lcom/example/operatory/operatory/fhir/SearchValue$Precision;Ljava/lang/String;ZLjava/lang/String;Ljava/lang/String;Ljava/lang/String;Ljava/lang/String;Ljava/lang/String;Ljava/lang/Boolean;)V", sig := { parameters := [(.object "java/lang/String"), (.object "com/example/operatory/operatory/fhir/SearchValue$Prefix"), (.object "java/math/BigDecimal"), (.object "java/lang/String"), (.object "com/example/operatory/operatory/fhir/SearchValue$Precision"), (.object "java/lang/String"), .boolean, (.object "java/lang/String"), (.object "java/lang/String"), (.object "java/lang/String"), (.object "java/lang/String"), (.object "java/lang/String"), (.object "java/lang/Boolean")], returnType := none }, accessFlags := 2, code := some k8c0 }
def k8c1 : Code := { maxStack := 15, maxLocals := 5, code := prog_5_method_6_code, exceptionTable := #[], attributes := #[] }
def k8m1 : Method := { name := "ofToken", desc := "(Ljava/lang/String;Ljava/lang/String;ZLjava/lang/String;Ljava/lang/String;)Lcom/example/operatory/operatory/fhir/SearchValue$Alternative;", sig := { parameters := [(.object "java/lang/String"), (.object "java/lang/String"), .boolean, (.object "java/lang/String"), (.object "java/lang/String")], returnType := some (.object "com/example/operatory/operatory/fhir/SearchValue$Alternative") }, accessFlags := 8, code := some k8c1 }
def k8c2 : Code := { maxStack := 1, maxLocals := 1, code := prog_5_method_8_code, exceptionTable := #[], attributes := #[] }
def k8m2 : Method := { name := "text", desc := "()Ljava/lang/String;", sig := { parameters := [], returnType := some (.object "java/lang/String") }, accessFlags := 1, code := some k8c2 }
def k8c3 : Code := { maxStack := 1, maxLocals := 1, code := prog_5_method_9_code, exceptionTable := #[], attributes := #[] }
def k8m3 : Method := { name := "prefix", desc := "()Ljava/util/Optional;", sig := { parameters := [], returnType := some (.object "java/util/Optional") }, accessFlags := 1, code := some k8c3 }
def k8c4 : Code := { maxStack := 1, maxLocals := 1, code := prog_5_method_10_code, exceptionTable := #[], attributes := #[] }
def k8m4 : Method := { name := "number", desc := "()Ljava/util/Optional;", sig := { parameters := [], returnType := some (.object "java/util/Optional") }, accessFlags := 1, code := some k8c4 }
def k8c5 : Code := { maxStack := 1, maxLocals := 1, code := prog_5_method_13_code, exceptionTable := #[], attributes := #[] }
def k8m5 : Method := { name := "system", desc := "()Ljava/util/Optional;", sig := { parameters := [], returnType := some (.object "java/util/Optional") }, accessFlags := 1, code := some k8c5 }
def k8c6 : Code := { maxStack := 1, maxLocals := 1, code := prog_5_method_14_code, exceptionTable := #[], attributes := #[] }
def k8m6 : Method := { name := "noSystem", desc := "()Z", sig := { parameters := [], returnType := some .boolean }, accessFlags := 1, code := some k8c6 }
def k8c7 : Code := { maxStack := 1, maxLocals := 1, code := prog_5_method_15_code, exceptionTable := #[], attributes := #[] }
def k8m7 : Method := { name := "code", desc := "()Ljava/util/Optional;", sig := { parameters := [], returnType := some (.object "java/util/Optional") }, accessFlags := 1, code := some k8c7 }
def k8c8 : Code := { maxStack := 1, maxLocals := 1, code := prog_5_method_16_code, exceptionTable := #[], attributes := #[] }
def k8m8 : Method := { name := "value", desc := "()Ljava/util/Optional;", sig := { parameters := [], returnType := some (.object "java/util/Optional") }, accessFlags := 1, code := some k8c8 }
def k8c9 : Code := { maxStack := 1, maxLocals := 1, code := prog_5_method_17_code, exceptionTable := #[], attributes := #[] }
def k8m9 : Method := { name := "type", desc := "()Ljava/util/Optional;", sig := { parameters := [], returnType := some (.object "java/util/Optional") }, accessFlags := 1, code := some k8c9 }
def k8c10 : Code := { maxStack := 1, maxLocals := 1, code := prog_5_method_19_code, exceptionTable := #[], attributes := #[] }
def k8m10 : Method := { name := "url", desc := "()Ljava/util/Optional;", sig := { parameters := [], returnType := some (.object "java/util/Optional") }, accessFlags := 1, code := some k8c10 }
def k8c11 : Code := { maxStack := 1, maxLocals := 1, code := prog_5_method_20_code, exceptionTable := #[], attributes := #[] }
def k8m11 : Method := { name := "missing", desc := "()Ljava/util/Optional;", sig := { parameters := [], returnType := some (.object "java/util/Optional") }, accessFlags := 1, code := some k8c11 }
/-- com/example/operatory/operatory/fhir/SearchValue$Alternative -/
def k8 : Class := { plain "com/example/operatory/operatory/fhir/SearchValue$Alternative" (some 0) with
  accessFlags := 49
  interfaces := #[]
  cf := some (fileOf pool8 8 #[.nestHost 95] #[{ accessFlags := 2, nameIndex := 5, descriptorIndex := 56, attributes := #[] }, { accessFlags := 8, nameIndex := 79, descriptorIndex := 80, attributes := #[] }, { accessFlags := 1, nameIndex := 11, descriptorIndex := 83, attributes := #[] }, { accessFlags := 1, nameIndex := 15, descriptorIndex := 84, attributes := #[] }, { accessFlags := 1, nameIndex := 19, descriptorIndex := 84, attributes := #[] }, { accessFlags := 1, nameIndex := 30, descriptorIndex := 84, attributes := #[] }, { accessFlags := 1, nameIndex := 33, descriptorIndex := 90, attributes := #[] }, { accessFlags := 1, nameIndex := 37, descriptorIndex := 84, attributes := #[] }, { accessFlags := 1, nameIndex := 40, descriptorIndex := 84, attributes := #[] }, { accessFlags := 1, nameIndex := 43, descriptorIndex := 84, attributes := #[] }, { accessFlags := 1, nameIndex := 49, descriptorIndex := 84, attributes := #[] }, { accessFlags := 1, nameIndex := 52, descriptorIndex := 84, attributes := #[] }] 49 2 #[] #[{ accessFlags := 18, nameIndex := 11, descriptorIndex := 12, attributes := #[] }, { accessFlags := 18, nameIndex := 15, descriptorIndex := 16, attributes := #[] }, { accessFlags := 18, nameIndex := 19, descriptorIndex := 20, attributes := #[] }, { accessFlags := 18, nameIndex := 23, descriptorIndex := 12, attributes := #[] }, { accessFlags := 18, nameIndex := 26, descriptorIndex := 27, attributes := #[] }, { accessFlags := 18, nameIndex := 30, descriptorIndex := 12, attributes := #[] }, { accessFlags := 18, nameIndex := 33, descriptorIndex := 34, attributes := #[] }, { accessFlags := 18, nameIndex := 37, descriptorIndex := 12, attributes := #[] }, { accessFlags := 18, nameIndex := 40, descriptorIndex := 12, attributes := #[] }, { accessFlags := 18, nameIndex := 43, descriptorIndex := 12, attributes := #[] }, { accessFlags := 18, nameIndex := 46, descriptorIndex := 12, attributes := #[] }, { accessFlags := 18, nameIndex := 49, descriptorIndex := 12, attributes := #[] }, { accessFlags := 18, nameIndex := 52, descriptorIndex := 53, attributes := #[] }])
  fields := #[{ name := "text", type := (.object "java/lang/String"), accessFlags := 18, slot := 0, constantValue := 0 }, { name := "prefix", type := (.object "com/example/operatory/operatory/fhir/SearchValue$Prefix"), accessFlags := 18, slot := 1, constantValue := 0 }, { name := "number", type := (.object "java/math/BigDecimal"), accessFlags := 18, slot := 2, constantValue := 0 }, { name := "date", type := (.object "java/lang/String"), accessFlags := 18, slot := 3, constantValue := 0 }, { name := "precision", type := (.object "com/example/operatory/operatory/fhir/SearchValue$Precision"), accessFlags := 18, slot := 4, constantValue := 0 }, { name := "system", type := (.object "java/lang/String"), accessFlags := 18, slot := 5, constantValue := 0 }, { name := "noSystem", type := .boolean, accessFlags := 18, slot := 6, constantValue := 0 }, { name := "code", type := (.object "java/lang/String"), accessFlags := 18, slot := 7, constantValue := 0 }, { name := "value", type := (.object "java/lang/String"), accessFlags := 18, slot := 8, constantValue := 0 }, { name := "type", type := (.object "java/lang/String"), accessFlags := 18, slot := 9, constantValue := 0 }, { name := "id", type := (.object "java/lang/String"), accessFlags := 18, slot := 10, constantValue := 0 }, { name := "url", type := (.object "java/lang/String"), accessFlags := 18, slot := 11, constantValue := 0 }, { name := "missing", type := (.object "java/lang/Boolean"), accessFlags := 18, slot := 12, constantValue := 0 }]
  methods := #[k8m0, k8m1, k8m2, k8m3, k8m4, k8m5, k8m6, k8m7, k8m8, k8m9, k8m10, k8m11]
  instanceTypes := #[(.object "java/lang/String"), (.object "com/example/operatory/operatory/fhir/SearchValue$Prefix"), (.object "java/math/BigDecimal"), (.object "java/lang/String"), (.object "com/example/operatory/operatory/fhir/SearchValue$Precision"), (.object "java/lang/String"), .boolean, (.object "java/lang/String"), (.object "java/lang/String"), (.object "java/lang/String"), (.object "java/lang/String"), (.object "java/lang/String"), (.object "java/lang/Boolean")]
  staticTypes := #[]
  resolved := Array.replicate 105 none
  statics := none }

def pool9 : Array CpInfo := pool [(1, .fieldref 2 3), (0, .class_ 4), (0, .nameAndType 5 6), (0, u "java/util/Optional"), (0, u "EMPTY"), (0, u "Ljava/util/Optional;"), (0, .methodref 8 9), (0, .class_ 10), (0, .nameAndType 11 12), (0, u "java/lang/Object"), (0, u "<init>"), (0, u "()V"), (0, .fieldref 2 14), (0, .nameAndType 15 16), (0, u "value"), (0, u "Ljava/lang/Object;"), (5, u "(Ljava/lang/Object;)Ljava/lang/Object;"), (0, .methodref 2 24), (0, .nameAndType 11 25), (0, u "(Ljava/lang/Object;)V"), (38, u "ofNullable"), (0, u "(Ljava/lang/Object;)Ljava/util/Optional;"), (99, u "orElse")] 21

def k9c0 : Code := { maxStack := 2, maxLocals := 2, code := jdk_32_method_2_code, exceptionTable := #[], attributes := #[] }
def k9m0 : Method := { name := "<init>", desc := "(Ljava/lang/Object;)V", sig := { parameters := [(.object "java/lang/Object")], returnType := none }, accessFlags := 2, code := some k9c0 }
def k9c1 : Code := { maxStack := 3, maxLocals := 1, code := jdk_32_method_4_code, exceptionTable := #[], attributes := #[] }
def k9m1 : Method := { name := "ofNullable", desc := "(Ljava/lang/Object;)Ljava/util/Optional;", sig := { parameters := [(.object "java/lang/Object")], returnType := some (.object "java/util/Optional") }, accessFlags := 9, code := some k9c1 }
def k9c2 : Code := { maxStack := 1, maxLocals := 2, code := jdk_32_method_15_code, exceptionTable := #[], attributes := #[] }
def k9m2 : Method := { name := "orElse", desc := "(Ljava/lang/Object;)Ljava/lang/Object;", sig := { parameters := [(.object "java/lang/Object")], returnType := some (.object "java/lang/Object") }, accessFlags := 1, code := some k9c2 }
/-- java/util/Optional -/
def k9 : Class := { plain "java/util/Optional" (some 0) with
  accessFlags := 49
  interfaces := #[]
  cf := some (fileOf pool9 2 #[] #[{ accessFlags := 2, nameIndex := 11, descriptorIndex := 25, attributes := #[] }, { accessFlags := 9, nameIndex := 64, descriptorIndex := 65, attributes := #[] }, { accessFlags := 1, nameIndex := 165, descriptorIndex := 22, attributes := #[] }] 49 8 #[] #[{ accessFlags := 26, nameIndex := 5, descriptorIndex := 6, attributes := #[] }, { accessFlags := 18, nameIndex := 15, descriptorIndex := 16, attributes := #[] }])
  fields := #[{ name := "EMPTY", type := (.object "java/util/Optional"), accessFlags := 26, slot := 0, constantValue := 0 }, { name := "value", type := (.object "java/lang/Object"), accessFlags := 18, slot := 0, constantValue := 0 }]
  methods := #[k9m0, k9m1, k9m2]
  instanceTypes := #[(.object "java/lang/Object")]
  staticTypes := #[(.object "java/util/Optional")]
  resolved := Array.replicate 187 none
  statics := some 1 }

def pool10 : Array CpInfo := pool [(6, .class_ 8), (1, u "java/lang/Object"), (0, u "<init>"), (0, u "()V"), (1, .class_ 14), (1, u "java/lang/StringUTF16"), (31, u "$assertionsDisabled"), (0, u "Z"), (13, u "HI_BYTE_SHIFT"), (0, u "I"), (2, u "LO_BYTE_SHIFT"), (49, .methodref 12 116), (0, .nameAndType 117 118), (0, u "compress"), (0, u "([CI[BII)I"), (3, u "([CII)[B"), (138, u "coderFromArrayLen"), (0, u "([BI)B"), (106, .class_ 371), (1, u "java/lang/StringUTF16$LinesSpliterator"), (58, u "MAX_LENGTH"), (196, .class_ 628), (0, u "java/lang/StringUTF16$CodePointsSpliterator"), (0, .class_ 630), (0, u "java/lang/StringUTF16$CharsSpliterator")] 4

def k10m0 : Method := { name := "<init>", desc := "()V", sig := { parameters := [], returnType := none }, accessFlags := 0, code := none }
def k10c1 : Code := { maxStack := 2, maxLocals := 2, code := jdk_52_method_15_code, exceptionTable := #[], attributes := #[] }
def k10m1 : Method := { name := "coderFromArrayLen", desc := "([BI)B", sig := { parameters := [(.array .byte), .int], returnType := some .byte }, accessFlags := 8, code := some k10c1 }
def k10c2 : Code := { maxStack := 5, maxLocals := 6, code := jdk_52_method_16_code, exceptionTable := #[], attributes := #[] }
def k10m2 : Method := { name := "compress", desc := "([CII)[B", sig := { parameters := [(.array .char), .int, .int], returnType := some (.array .byte) }, accessFlags := 9, code := some k10c2 }
def k10c3 : Code := { maxStack := 3, maxLocals := 7, code := jdk_52_method_21_code, exceptionTable := #[], attributes := #[] }
def k10m3 : Method := { name := "compress", desc := "([CI[BII)I", sig := { parameters := [(.array .char), .int, (.array .byte), .int, .int], returnType := some .int }, accessFlags := 9, code := some k10c3 }
/-- java/lang/StringUTF16 -/
def k10 : Class := { plain "java/lang/StringUTF16" (some 0) with
  accessFlags := 48
  interfaces := #[]
  cf := some (fileOf pool10 12 #[.nestMembers #[627, 629, 369]] #[{ accessFlags := 0, nameIndex := 9, descriptorIndex := 10, attributes := #[] }, { accessFlags := 8, nameIndex := 261, descriptorIndex := 262, attributes := #[] }, { accessFlags := 9, nameIndex := 117, descriptorIndex := 122, attributes := #[] }, { accessFlags := 9, nameIndex := 117, descriptorIndex := 118, attributes := #[] }] 48 6 #[] #[{ accessFlags := 26, nameIndex := 61, descriptorIndex := 62, attributes := #[] }, { accessFlags := 26, nameIndex := 65, descriptorIndex := 62, attributes := #[] }, { accessFlags := 24, nameIndex := 430, descriptorIndex := 62, attributes := #[] }, { accessFlags := 4120, nameIndex := 46, descriptorIndex := 47, attributes := #[] }])
  fields := #[{ name := "HI_BYTE_SHIFT", type := .int, accessFlags := 26, slot := 0, constantValue := 0 }, { name := "LO_BYTE_SHIFT", type := .int, accessFlags := 26, slot := 1, constantValue := 0 }, { name := "MAX_LENGTH", type := .int, accessFlags := 24, slot := 2, constantValue := 0 }, { name := "$assertionsDisabled", type := .boolean, accessFlags := 4120, slot := 3, constantValue := 0 }]
  methods := #[k10m0, k10m1, k10m2, k10m3]
  instanceTypes := #[]
  staticTypes := #[.int, .int, .int, .boolean]
  resolved := Array.replicate 635 none
  statics := none }

def pool11 : Array CpInfo := pool [(4, .class_ 6), (1, u "java/lang/Object"), (0, u "<init>"), (0, u "()V"), (5, .class_ 16), (1, u "java/lang/StringLatin1"), (104, u "$assertionsDisabled"), (0, u "Z"), (98, .class_ 223), (1, u "java/lang/StringLatin1$LinesSpliterator"), (166, .class_ 391), (0, u "java/lang/StringLatin1$CharsSpliterator")] 3

def k11m0 : Method := { name := "<init>", desc := "()V", sig := { parameters := [], returnType := none }, accessFlags := 0, code := none }
/-- java/lang/StringLatin1 -/
def k11 : Class := { plain "java/lang/StringLatin1" (some 0) with
  accessFlags := 48
  interfaces := #[]
  cf := some (fileOf pool11 14 #[.nestMembers #[390, 221]] #[{ accessFlags := 0, nameIndex := 7, descriptorIndex := 8, attributes := #[] }] 48 4 #[] #[{ accessFlags := 4120, nameIndex := 121, descriptorIndex := 122, attributes := #[] }])
  fields := #[{ name := "$assertionsDisabled", type := .boolean, accessFlags := 4120, slot := 0, constantValue := 0 }]
  methods := #[k11m0]
  instanceTypes := #[]
  staticTypes := #[.boolean]
  resolved := Array.replicate 395 none
  statics := none }

def pool12 : Array CpInfo := pool [(2, .class_ 4), (1, u "java/lang/Object"), (0, u "<init>"), (0, u "()V"), (17, .class_ 26), (1, u "jdk/internal/util/Preconditions"), (28, .class_ 56), (0, u "jdk/internal/util/Preconditions$4"), (57, .class_ 115), (0, u "jdk/internal/util/Preconditions$1"), (7, u "SIOOBE_FORMATTER"), (0, u "Ljava/util/function/BiFunction;"), (0, .class_ 126), (0, u "jdk/internal/util/Preconditions$2"), (3, u "AIOOBE_FORMATTER"), (0, .class_ 132), (0, u "jdk/internal/util/Preconditions$3"), (3, u "IOOBE_FORMATTER")] 57

def k12m0 : Method := { name := "<init>", desc := "()V", sig := { parameters := [], returnType := none }, accessFlags := 1, code := none }
/-- jdk/internal/util/Preconditions -/
def k12 : Class := { plain "jdk/internal/util/Preconditions" (some 0) with
  accessFlags := 33
  interfaces := #[]
  cf := some (fileOf pool12 24 #[.nestMembers #[55, 131, 125, 114]] #[{ accessFlags := 1, nameIndex := 5, descriptorIndex := 6, attributes := #[] }] 33 2 #[] #[{ accessFlags := 25, nameIndex := 123, descriptorIndex := 124, attributes := #[] }, { accessFlags := 25, nameIndex := 130, descriptorIndex := 124, attributes := #[] }, { accessFlags := 25, nameIndex := 136, descriptorIndex := 124, attributes := #[] }])
  fields := #[{ name := "SIOOBE_FORMATTER", type := (.object "java/util/function/BiFunction"), accessFlags := 25, slot := 0, constantValue := 0 }, { name := "AIOOBE_FORMATTER", type := (.object "java/util/function/BiFunction"), accessFlags := 25, slot := 1, constantValue := 0 }, { name := "IOOBE_FORMATTER", type := (.object "java/util/function/BiFunction"), accessFlags := 25, slot := 2, constantValue := 0 }]
  methods := #[k12m0]
  instanceTypes := #[]
  staticTypes := #[(.object "java/util/function/BiFunction"), (.object "java/util/function/BiFunction"), (.object "java/util/function/BiFunction")]
  resolved := Array.replicate 194 none
  statics := some 2 }

def pool13 : Array CpInfo := pool [(9, u "<init>"), (6, .class_ 18), (1, u "java/lang/Object"), (0, u "()V"), (1, .class_ 23), (1, u "jdk/internal/util/ArraysSupport"), (0, u "LOG2_ARRAY_LONG_INDEX_SCALE"), (0, u "I"), (2, u "U"), (0, u "Ljdk/internal/misc/Unsafe;"), (8, u "BIG_ENDIAN"), (0, u "Z"), (8, u "LOG2_BYTE_BIT_SIZE"), (4, u "LOG2_ARRAY_INT_INDEX_SCALE"), (54, u "JLA"), (0, u "Ljdk/internal/access/JavaLangAccess;"), (11, u "LOG2_ARRAY_BOOLEAN_INDEX_SCALE"), (9, u "LOG2_ARRAY_BYTE_INDEX_SCALE"), (5, u "LOG2_ARRAY_CHAR_INDEX_SCALE"), (5, u "LOG2_ARRAY_SHORT_INDEX_SCALE"), (18, u "LOG2_ARRAY_FLOAT_INDEX_SCALE"), (24, u "LOG2_ARRAY_DOUBLE_INDEX_SCALE"), (89, u "T_BOOLEAN"), (2, u "T_CHAR"), (1, u "T_FLOAT"), (1, u "T_DOUBLE"), (1, u "T_BYTE"), (1, u "T_SHORT"), (1, u "T_INT"), (1, u "T_LONG"), (1, u "SOFT_MAX_ARRAY_LENGTH")] 83

def k13m0 : Method := { name := "<init>", desc := "()V", sig := { parameters := [], returnType := none }, accessFlags := 2, code := none }
/-- jdk/internal/util/ArraysSupport -/
def k13 : Class := { plain "jdk/internal/util/ArraysSupport" (some 0) with
  accessFlags := 33
  interfaces := #[]
  cf := some (fileOf pool13 21 #[] #[{ accessFlags := 2, nameIndex := 9, descriptorIndex := 19, attributes := #[] }] 33 16 #[] #[{ accessFlags := 24, nameIndex := 28, descriptorIndex := 29, attributes := #[] }, { accessFlags := 26, nameIndex := 38, descriptorIndex := 39, attributes := #[] }, { accessFlags := 25, nameIndex := 121, descriptorIndex := 25, attributes := #[] }, { accessFlags := 25, nameIndex := 131, descriptorIndex := 25, attributes := #[] }, { accessFlags := 25, nameIndex := 137, descriptorIndex := 25, attributes := #[] }, { accessFlags := 25, nameIndex := 143, descriptorIndex := 25, attributes := #[] }, { accessFlags := 25, nameIndex := 53, descriptorIndex := 25, attributes := #[] }, { accessFlags := 25, nameIndex := 24, descriptorIndex := 25, attributes := #[] }, { accessFlags := 25, nameIndex := 162, descriptorIndex := 25, attributes := #[] }, { accessFlags := 25, nameIndex := 187, descriptorIndex := 25, attributes := #[] }, { accessFlags := 26, nameIndex := 48, descriptorIndex := 25, attributes := #[] }, { accessFlags := 25, nameIndex := 277, descriptorIndex := 25, attributes := #[] }, { accessFlags := 25, nameIndex := 280, descriptorIndex := 25, attributes := #[] }, { accessFlags := 25, nameIndex := 282, descriptorIndex := 25, attributes := #[] }, { accessFlags := 25, nameIndex := 284, descriptorIndex := 25, attributes := #[] }, { accessFlags := 25, nameIndex := 286, descriptorIndex := 25, attributes := #[] }, { accessFlags := 25, nameIndex := 288, descriptorIndex := 25, attributes := #[] }, { accessFlags := 25, nameIndex := 290, descriptorIndex := 25, attributes := #[] }, { accessFlags := 25, nameIndex := 292, descriptorIndex := 25, attributes := #[] }, { accessFlags := 26, nameIndex := 108, descriptorIndex := 109, attributes := #[] }, { accessFlags := 25, nameIndex := 294, descriptorIndex := 25, attributes := #[] }])
  fields := #[{ name := "U", type := (.object "jdk/internal/misc/Unsafe"), accessFlags := 24, slot := 0, constantValue := 0 }, { name := "BIG_ENDIAN", type := .boolean, accessFlags := 26, slot := 1, constantValue := 0 }, { name := "LOG2_ARRAY_BOOLEAN_INDEX_SCALE", type := .int, accessFlags := 25, slot := 2, constantValue := 0 }, { name := "LOG2_ARRAY_BYTE_INDEX_SCALE", type := .int, accessFlags := 25, slot := 3, constantValue := 0 }, { name := "LOG2_ARRAY_CHAR_INDEX_SCALE", type := .int, accessFlags := 25, slot := 4, constantValue := 0 }, { name := "LOG2_ARRAY_SHORT_INDEX_SCALE", type := .int, accessFlags := 25, slot := 5, constantValue := 0 }, { name := "LOG2_ARRAY_INT_INDEX_SCALE", type := .int, accessFlags := 25, slot := 6, constantValue := 0 }, { name := "LOG2_ARRAY_LONG_INDEX_SCALE", type := .int, accessFlags := 25, slot := 7, constantValue := 0 }, { name := "LOG2_ARRAY_FLOAT_INDEX_SCALE", type := .int, accessFlags := 25, slot := 8, constantValue := 0 }, { name := "LOG2_ARRAY_DOUBLE_INDEX_SCALE", type := .int, accessFlags := 25, slot := 9, constantValue := 0 }, { name := "LOG2_BYTE_BIT_SIZE", type := .int, accessFlags := 26, slot := 10, constantValue := 0 }, { name := "T_BOOLEAN", type := .int, accessFlags := 25, slot := 11, constantValue := 0 }, { name := "T_CHAR", type := .int, accessFlags := 25, slot := 12, constantValue := 0 }, { name := "T_FLOAT", type := .int, accessFlags := 25, slot := 13, constantValue := 0 }, { name := "T_DOUBLE", type := .int, accessFlags := 25, slot := 14, constantValue := 0 }, { name := "T_BYTE", type := .int, accessFlags := 25, slot := 15, constantValue := 0 }, { name := "T_SHORT", type := .int, accessFlags := 25, slot := 16, constantValue := 0 }, { name := "T_INT", type := .int, accessFlags := 25, slot := 17, constantValue := 0 }, { name := "T_LONG", type := .int, accessFlags := 25, slot := 18, constantValue := 0 }, { name := "JLA", type := (.object "jdk/internal/access/JavaLangAccess"), accessFlags := 26, slot := 19, constantValue := 0 }, { name := "SOFT_MAX_ARRAY_LENGTH", type := .int, accessFlags := 25, slot := 20, constantValue := 0 }]
  methods := #[k13m0]
  instanceTypes := #[]
  staticTypes := #[(.object "jdk/internal/misc/Unsafe"), .boolean, .int, .int, .int, .int, .int, .int, .int, .int, .int, .int, .int, .int, .int, .int, .int, .int, .int, (.object "jdk/internal/access/JavaLangAccess"), .int]
  resolved := Array.replicate 378 none
  statics := none }

def pool14 : Array CpInfo := pool [(1, u "java/lang/Cloneable"), (0, .class_ 1), (0, u "java/lang/Object"), (0, .class_ 3)] 3

/-- java/lang/Cloneable -/
def k14 : Class := { plain "java/lang/Cloneable" (some 0) with
  accessFlags := 1537
  interfaces := #[]
  cf := some (fileOf pool14 2 #[] #[] 1537 4 #[] #[])
  fields := #[]
  methods := #[]
  instanceTypes := #[]
  staticTypes := #[]
  resolved := Array.replicate 8 none
  statics := none }

/-- the primitive byte -/
def k15 : Class := { plain "byte" none with kind := .primitive 'B', accessFlags := 0x411 }
/-- [B -/
def k16 : Class := { plain "[B" (some 0) with kind := .array 15 .byte, interfaces := #[14, 2], accessFlags := 1041 }

/-- the primitive char -/
def k17 : Class := { plain "char" none with kind := .primitive 'C', accessFlags := 0x411 }
/-- [C -/
def k18 : Class := { plain "[C" (some 0) with kind := .array 17 .char, interfaces := #[14, 2], accessFlags := 1041 }

/-- the primitive int -/
def k19 : Class := { plain "int" none with kind := .primitive 'I', accessFlags := 0x411 }
/-- [I -/
def k20 : Class := { plain "[I" (some 0) with kind := .array 19 .int, interfaces := #[14, 2], accessFlags := 1041 }

def heap : Heap := #[{ cls := 7, slots := #[.long 0, .int 1, .null, .int 0, .null, .int 0, .int 0], vm := .statics 7 },
  { cls := 9, slots := #[.ref 3], vm := .statics 9 },
  { cls := 12, slots := #[.null, .null, .null], vm := .statics 12 },
  { cls := 9, slots := #[.null], vm := .none }]
def classes : Array Class := #[k0, k1, k2, k3, k4, k5, k6, k7, k8, k9, k10, k11, k12, k13, k14, k15, k16, k17, k18, k19, k20]
def interned : List (Array UInt16 × Addr) := []
def slotsUsed : Nat := 12
def theMethod : MethodId := ⟨1, 2⟩
def args0 : Array Value := #[.int 5, .int 5, .int 5, .int 5, .int 5]
def aboutOver (below : List Frame) : State where
  vm := { classes := classes, interned := interned.toArray }
  heap := heap
  slotsUsed := slotsUsed
  threads := #[{ frames := .invoking theMethod args0 :: below }]
def below0 : List Frame := [.native { method := ⟨0, 0⟩, args := #[] }]
def about1 : State := aboutOver below0
def p0 : Program := .bare "" "" ""
def e0 : Env := launch0.env 0 0 0
theorem w_frames : about1.frames = Frame.invoking theMethod args0 :: below0 := rfl
set_option maxRecDepth 65536 in
theorem w_args : argsFit about1.vm theMethod args0 = true := by decide +kernel
set_option maxRecDepth 65536 in
theorem w_heap : heapFits about1 = true := by decide +kernel
set_option maxRecDepth 65536 in
theorem w_runnable : about1.curStatus? = some .runnable := by decide +kernel
set_option maxRecDepth 65536 in
theorem w_alone : about1.alone = true := by decide +kernel
set_option maxRecDepth 65536 in
theorem w_named : about1.methodNamed? x = some theMethod := by decide +kernel
set_option maxRecDepth 65536 in
theorem w_hears : about1.hears theMethod below0 = true := by decide +kernel
set_option maxRecDepth 65536 in
theorem w_ripe : about1.ripe theMethod args0 below0 = true := by decide +kernel
theorem w_running : about1.status = .running := rfl
set_option maxRecDepth 65536 in
theorem w_room : about1.hasRoom e0.platform room_1 = true :=
  launch0.hasRoom_least _ room_1 (by decide +kernel) (by decide +kernel) (by decide +kernel) (by decide +kernel) (by decide +kernel) (by decide +kernel)
theorem allAtoms_all (ts : List Jvm.Cond) (a : Array Jvm.Value) (st : Jvm.State) : (allAtoms ts).before a st = ts.all (fun c => c.before a st) := by
  induction ts with
  | nil => rfl
  | cons c t ih =>
    show (Jvm.Cond.and c (allAtoms t)).before a st = _
    rw [Jvm.Cond.before_and, ih, List.all_cons]
def words1 : List Jvm.Cond := Jvm.Cond.code x code maxLocals ret :: tables_1
/-- a 'code' word, met by the world's own term for the bytes: nothing is compared byte by byte -/
theorem code_word {y : MethodName} {bytes : ByteArray} {mx : Nat} {rt : Option FieldType} {a : Array Value} {s : State} {m : MethodId} {meth : Method} {c : Code} (h1 : s.methodNamed? y = some m) (h2 : s.vm.method? m = some meth) (h3 : meth.code = some c) (h4 : c.code = bytes)
    (h5 : (c.maxLocals == mx && c.exceptionTable.isEmpty && decide (c.maxStack ≤ mostOperands) && decide (meth.sig.returnType = rt) && !meth.locks && decide (parseMethodDescriptor y.desc = some meth.sig)) = true) : (Jvm.Cond.code y bytes mx rt).before a s = true := by
  simp only [Bool.and_eq_true, beq_iff_eq, Bool.not_eq_true', decide_eq_true_eq] at h5
  obtain ⟨⟨⟨⟨⟨g1, g2⟩, g3⟩, g4⟩, g5⟩, g6⟩ := h5
  simp [Cond.before, Cond.holds, Cond.value, h1, h2, h3, h4, g1, g2, g3, g4, g5, g6]
def isCode : Jvm.Cond → Bool
  | .code _ _ _ _ => true
  | _ => false
theorem all_split {L : List Jvm.Cond} {P : Jvm.Cond → Bool} (h1 : L.all (fun c => isCode c || P c) = true) (h2 : ∀ c ∈ L.filter isCode, P c = true) : L.all P = true := by
  refine List.all_eq_true.mpr fun c hc => ?_
  have h := List.all_eq_true.mp h1 c hc
  rcases Bool.eq_false_or_eq_true (isCode c) with hi | hi
  · exact h2 c (List.mem_filter.mpr ⟨hc, hi⟩)
  · simpa [hi] using h
set_option maxRecDepth 65536 in
theorem w_c0 : (Jvm.Cond.code x code maxLocals ret).before args0 about1 = true := code_word (m := ⟨1, 2⟩) (meth := k1m2) (c := k1c2) (by decide +kernel) rfl rfl rfl (by decide +kernel)
set_option maxRecDepth 65536 in
theorem w_c1 : (Jvm.Cond.code ({ cls := "com/example/operatory/operatory/fhir/AlternativeOfTokenPinLaw", name := "str", desc := "(I)Ljava/lang/String;" } : Jvm.MethodName) method_2_code (4 : Nat) (Option.some (Jvm.ClassFile.FieldType.object "java/lang/String"))).before args0 about1 = true := code_word (m := ⟨1, 1⟩) (meth := k1m1) (c := k1c1) (by decide +kernel) rfl rfl rfl (by decide +kernel)
set_option maxRecDepth 65536 in
theorem w_c2 : (Jvm.Cond.code ({ cls := "java/lang/String", name := "<init>", desc := "([C)V" } : Jvm.MethodName) jdk_42_method_3_code (2 : Nat) (Option.none : Option Jvm.ClassFile.FieldType)).before args0 about1 = true := code_word (m := ⟨7, 1⟩) (meth := k7m1) (c := k7c1) (by decide +kernel) rfl rfl rfl (by decide +kernel)
set_option maxRecDepth 65536 in
theorem w_c3 : (Jvm.Cond.code ({ cls := "java/lang/String", name := "<init>", desc := "([CIILjava/lang/Void;)V" } : Jvm.MethodName) jdk_42_method_149_code (6 : Nat) (Option.none : Option Jvm.ClassFile.FieldType)).before args0 about1 = true := code_word (m := ⟨7, 2⟩) (meth := k7m2) (c := k7c2) (by decide +kernel) rfl rfl rfl (by decide +kernel)
set_option maxRecDepth 65536 in
theorem w_c4 : (Jvm.Cond.code ({ cls := "java/lang/Object", name := "<init>", desc := "()V" } : Jvm.MethodName) object_method_1_code (1 : Nat) (Option.none : Option Jvm.ClassFile.FieldType)).before args0 about1 = true := code_word (m := ⟨0, 0⟩) (meth := k0m0) (c := k0c0) (by decide +kernel) rfl rfl rfl (by decide +kernel)
set_option maxRecDepth 65536 in
theorem w_c5 : (Jvm.Cond.code ({ cls := "com/example/operatory/operatory/fhir/SearchValue$Alternative", name := "ofToken", desc := "(Ljava/lang/String;Ljava/lang/String;ZLjava/lang/String;Ljava/lang/String;)Lcom/example/operatory/operatory/fhir/SearchValue$Alternative;" } : Jvm.MethodName) prog_5_method_6_code (5 : Nat) (Option.some (Jvm.ClassFile.FieldType.object "com/example/operatory/operatory/fhir/SearchValue$Alternative"))).before args0 about1 = true := code_word (m := ⟨8, 1⟩) (meth := k8m1) (c := k8c1) (by decide +kernel) rfl rfl rfl (by decide +kernel)
set_option maxRecDepth 65536 in
theorem w_c6 : (Jvm.Cond.code ({ cls := "com/example/operatory/operatory/fhir/SearchValue$Alternative", name := "<init>", desc := "(Ljava/lang/String;Lcom/example/operatory/operatory/fhir/SearchValue$Prefix;Ljava/math/BigDecimal;Ljava/lang/String;Lcom/example/operatory/operatory/fhir/SearchValue$Precision;Ljava/lang/String;ZLjava/lang/String;Ljava/lang/String;Ljava/lang/String;Ljava/lang/String;Ljava/lang/String;Ljava/lang/Boolean;)V" } : Jvm.MethodName) prog_5_method_1_code (14 : Nat) (Option.none : Option Jvm.ClassFile.FieldType)).before args0 about1 = true := code_word (m := ⟨8, 0⟩) (meth := k8m0) (c := k8c0) (by decide +kernel) rfl rfl rfl (by decide +kernel)
set_option maxRecDepth 65536 in
theorem w_c7 : (Jvm.Cond.code ({ cls := "com/example/operatory/operatory/fhir/SearchValue$Alternative", name := "text", desc := "()Ljava/lang/String;" } : Jvm.MethodName) prog_5_method_8_code (1 : Nat) (Option.some (Jvm.ClassFile.FieldType.object "java/lang/String"))).before args0 about1 = true := code_word (m := ⟨8, 2⟩) (meth := k8m2) (c := k8c2) (by decide +kernel) rfl rfl rfl (by decide +kernel)
set_option maxRecDepth 65536 in
theorem w_c8 : (Jvm.Cond.code ({ cls := "com/example/operatory/operatory/fhir/SearchValue$Alternative", name := "system", desc := "()Ljava/util/Optional;" } : Jvm.MethodName) prog_5_method_13_code (1 : Nat) (Option.some (Jvm.ClassFile.FieldType.object "java/util/Optional"))).before args0 about1 = true := code_word (m := ⟨8, 5⟩) (meth := k8m5) (c := k8c5) (by decide +kernel) rfl rfl rfl (by decide +kernel)
set_option maxRecDepth 65536 in
theorem w_c9 : (Jvm.Cond.code ({ cls := "java/util/Optional", name := "ofNullable", desc := "(Ljava/lang/Object;)Ljava/util/Optional;" } : Jvm.MethodName) jdk_32_method_4_code (1 : Nat) (Option.some (Jvm.ClassFile.FieldType.object "java/util/Optional"))).before args0 about1 = true := code_word (m := ⟨9, 1⟩) (meth := k9m1) (c := k9c1) (by decide +kernel) rfl rfl rfl (by decide +kernel)
set_option maxRecDepth 65536 in
theorem w_c10 : (Jvm.Cond.code ({ cls := "java/util/Optional", name := "<init>", desc := "(Ljava/lang/Object;)V" } : Jvm.MethodName) jdk_32_method_2_code (2 : Nat) (Option.none : Option Jvm.ClassFile.FieldType)).before args0 about1 = true := code_word (m := ⟨9, 0⟩) (meth := k9m0) (c := k9c0) (by decide +kernel) rfl rfl rfl (by decide +kernel)
set_option maxRecDepth 65536 in
theorem w_c11 : (Jvm.Cond.code ({ cls := "java/util/Optional", name := "orElse", desc := "(Ljava/lang/Object;)Ljava/lang/Object;" } : Jvm.MethodName) jdk_32_method_15_code (2 : Nat) (Option.some (Jvm.ClassFile.FieldType.object "java/lang/Object"))).before args0 about1 = true := code_word (m := ⟨9, 2⟩) (meth := k9m2) (c := k9c2) (by decide +kernel) rfl rfl rfl (by decide +kernel)
set_option maxRecDepth 65536 in
theorem w_c12 : (Jvm.Cond.code ({ cls := "com/example/operatory/operatory/fhir/SearchValue$Alternative", name := "noSystem", desc := "()Z" } : Jvm.MethodName) prog_5_method_14_code (1 : Nat) (Option.some Jvm.ClassFile.FieldType.boolean)).before args0 about1 = true := code_word (m := ⟨8, 6⟩) (meth := k8m6) (c := k8c6) (by decide +kernel) rfl rfl rfl (by decide +kernel)
set_option maxRecDepth 65536 in
theorem w_c13 : (Jvm.Cond.code ({ cls := "com/example/operatory/operatory/fhir/SearchValue$Alternative", name := "code", desc := "()Ljava/util/Optional;" } : Jvm.MethodName) prog_5_method_15_code (1 : Nat) (Option.some (Jvm.ClassFile.FieldType.object "java/util/Optional"))).before args0 about1 = true := code_word (m := ⟨8, 7⟩) (meth := k8m7) (c := k8c7) (by decide +kernel) rfl rfl rfl (by decide +kernel)
set_option maxRecDepth 65536 in
theorem w_c14 : (Jvm.Cond.code ({ cls := "com/example/operatory/operatory/fhir/SearchValue$Alternative", name := "value", desc := "()Ljava/util/Optional;" } : Jvm.MethodName) prog_5_method_16_code (1 : Nat) (Option.some (Jvm.ClassFile.FieldType.object "java/util/Optional"))).before args0 about1 = true := code_word (m := ⟨8, 8⟩) (meth := k8m8) (c := k8c8) (by decide +kernel) rfl rfl rfl (by decide +kernel)
set_option maxRecDepth 65536 in
theorem w_c15 : (Jvm.Cond.code ({ cls := "com/example/operatory/operatory/fhir/SearchValue$Alternative", name := "prefix", desc := "()Ljava/util/Optional;" } : Jvm.MethodName) prog_5_method_9_code (1 : Nat) (Option.some (Jvm.ClassFile.FieldType.object "java/util/Optional"))).before args0 about1 = true := code_word (m := ⟨8, 3⟩) (meth := k8m3) (c := k8c3) (by decide +kernel) rfl rfl rfl (by decide +kernel)
set_option maxRecDepth 65536 in
theorem w_c16 : (Jvm.Cond.code ({ cls := "com/example/operatory/operatory/fhir/SearchValue$Alternative", name := "number", desc := "()Ljava/util/Optional;" } : Jvm.MethodName) prog_5_method_10_code (1 : Nat) (Option.some (Jvm.ClassFile.FieldType.object "java/util/Optional"))).before args0 about1 = true := code_word (m := ⟨8, 4⟩) (meth := k8m4) (c := k8c4) (by decide +kernel) rfl rfl rfl (by decide +kernel)
set_option maxRecDepth 65536 in
theorem w_c17 : (Jvm.Cond.code ({ cls := "com/example/operatory/operatory/fhir/SearchValue$Alternative", name := "type", desc := "()Ljava/util/Optional;" } : Jvm.MethodName) prog_5_method_17_code (1 : Nat) (Option.some (Jvm.ClassFile.FieldType.object "java/util/Optional"))).before args0 about1 = true := code_word (m := ⟨8, 9⟩) (meth := k8m9) (c := k8c9) (by decide +kernel) rfl rfl rfl (by decide +kernel)
set_option maxRecDepth 65536 in
theorem w_c18 : (Jvm.Cond.code ({ cls := "com/example/operatory/operatory/fhir/SearchValue$Alternative", name := "url", desc := "()Ljava/util/Optional;" } : Jvm.MethodName) prog_5_method_19_code (1 : Nat) (Option.some (Jvm.ClassFile.FieldType.object "java/util/Optional"))).before args0 about1 = true := code_word (m := ⟨8, 10⟩) (meth := k8m10) (c := k8c10) (by decide +kernel) rfl rfl rfl (by decide +kernel)
set_option maxRecDepth 65536 in
theorem w_c19 : (Jvm.Cond.code ({ cls := "com/example/operatory/operatory/fhir/SearchValue$Alternative", name := "missing", desc := "()Ljava/util/Optional;" } : Jvm.MethodName) prog_5_method_20_code (1 : Nat) (Option.some (Jvm.ClassFile.FieldType.object "java/util/Optional"))).before args0 about1 = true := code_word (m := ⟨8, 11⟩) (meth := k8m11) (c := k8c11) (by decide +kernel) rfl rfl rfl (by decide +kernel)
set_option maxRecDepth 65536 in
theorem w_c20 : (Jvm.Cond.code ({ cls := "java/lang/StringUTF16", name := "compress", desc := "([CII)[B" } : Jvm.MethodName) jdk_52_method_16_code (6 : Nat) (Option.some (Jvm.ClassFile.FieldType.array Jvm.ClassFile.FieldType.byte))).before args0 about1 = true := code_word (m := ⟨10, 2⟩) (meth := k10m2) (c := k10c2) (by decide +kernel) rfl rfl rfl (by decide +kernel)
set_option maxRecDepth 65536 in
theorem w_c21 : (Jvm.Cond.code ({ cls := "java/lang/StringUTF16", name := "compress", desc := "([CI[BII)I" } : Jvm.MethodName) jdk_52_method_21_code (7 : Nat) (Option.some Jvm.ClassFile.FieldType.int)).before args0 about1 = true := code_word (m := ⟨10, 3⟩) (meth := k10m3) (c := k10c3) (by decide +kernel) rfl rfl rfl (by decide +kernel)
set_option maxRecDepth 65536 in
theorem w_c22 : (Jvm.Cond.code ({ cls := "java/lang/StringUTF16", name := "coderFromArrayLen", desc := "([BI)B" } : Jvm.MethodName) jdk_52_method_15_code (2 : Nat) (Option.some Jvm.ClassFile.FieldType.byte)).before args0 about1 = true := code_word (m := ⟨10, 1⟩) (meth := k10m1) (c := k10c1) (by decide +kernel) rfl rfl rfl (by decide +kernel)
def codes1 : List Jvm.Cond := [Jvm.Cond.code x code maxLocals ret, Jvm.Cond.code ({ cls := "com/example/operatory/operatory/fhir/AlternativeOfTokenPinLaw", name := "str", desc := "(I)Ljava/lang/String;" } : Jvm.MethodName) method_2_code (4 : Nat) (Option.some (Jvm.ClassFile.FieldType.object "java/lang/String")), Jvm.Cond.code ({ cls := "java/lang/String", name := "<init>", desc := "([C)V" } : Jvm.MethodName) jdk_42_method_3_code (2 : Nat) (Option.none : Option Jvm.ClassFile.FieldType), Jvm.Cond.code ({ cls := "java/lang/String", name := "<init>", desc := "([CIILjava/lang/Void;)V" } : Jvm.MethodName) jdk_42_method_149_code (6 : Nat) (Option.none : Option Jvm.ClassFile.FieldType), Jvm.Cond.code ({ cls := "java/lang/Object", name := "<init>", desc := "()V" } : Jvm.MethodName) object_method_1_code (1 : Nat) (Option.none : Option Jvm.ClassFile.FieldType), Jvm.Cond.code ({ cls := "com/example/operatory/operatory/fhir/SearchValue$Alternative", name := "ofToken", desc := "(Ljava/lang/String;Ljava/lang/String;ZLjava/lang/String;Ljava/lang/String;)Lcom/example/operatory/operatory/fhir/SearchValue$Alternative;" } : Jvm.MethodName) prog_5_method_6_code (5 : Nat) (Option.some (Jvm.ClassFile.FieldType.object "com/example/operatory/operatory/fhir/SearchValue$Alternative")), Jvm.Cond.code ({ cls := "com/example/operatory/operatory/fhir/SearchValue$Alternative", name := "<init>", desc := "(Ljava/lang/String;Lcom/example/operatory/operatory/fhir/SearchValue$Prefix;Ljava/math/BigDecimal;Ljava/lang/String;Lcom/example/operatory/operatory/fhir/SearchValue$Precision;Ljava/lang/String;ZLjava/lang/String;Ljava/lang/String;Ljava/lang/String;Ljava/lang/String;Ljava/lang/String;Ljava/lang/Boolean;)V" } : Jvm.MethodName) prog_5_method_1_code (14 : Nat) (Option.none : Option Jvm.ClassFile.FieldType), Jvm.Cond.code ({ cls := "com/example/operatory/operatory/fhir/SearchValue$Alternative", name := "text", desc := "()Ljava/lang/String;" } : Jvm.MethodName) prog_5_method_8_code (1 : Nat) (Option.some (Jvm.ClassFile.FieldType.object "java/lang/String")), Jvm.Cond.code ({ cls := "com/example/operatory/operatory/fhir/SearchValue$Alternative", name := "system", desc := "()Ljava/util/Optional;" } : Jvm.MethodName) prog_5_method_13_code (1 : Nat) (Option.some (Jvm.ClassFile.FieldType.object "java/util/Optional")), Jvm.Cond.code ({ cls := "java/util/Optional", name := "ofNullable", desc := "(Ljava/lang/Object;)Ljava/util/Optional;" } : Jvm.MethodName) jdk_32_method_4_code (1 : Nat) (Option.some (Jvm.ClassFile.FieldType.object "java/util/Optional")), Jvm.Cond.code ({ cls := "java/util/Optional", name := "<init>", desc := "(Ljava/lang/Object;)V" } : Jvm.MethodName) jdk_32_method_2_code (2 : Nat) (Option.none : Option Jvm.ClassFile.FieldType), Jvm.Cond.code ({ cls := "java/util/Optional", name := "orElse", desc := "(Ljava/lang/Object;)Ljava/lang/Object;" } : Jvm.MethodName) jdk_32_method_15_code (2 : Nat) (Option.some (Jvm.ClassFile.FieldType.object "java/lang/Object")), Jvm.Cond.code ({ cls := "com/example/operatory/operatory/fhir/SearchValue$Alternative", name := "noSystem", desc := "()Z" } : Jvm.MethodName) prog_5_method_14_code (1 : Nat) (Option.some Jvm.ClassFile.FieldType.boolean), Jvm.Cond.code ({ cls := "com/example/operatory/operatory/fhir/SearchValue$Alternative", name := "code", desc := "()Ljava/util/Optional;" } : Jvm.MethodName) prog_5_method_15_code (1 : Nat) (Option.some (Jvm.ClassFile.FieldType.object "java/util/Optional")), Jvm.Cond.code ({ cls := "com/example/operatory/operatory/fhir/SearchValue$Alternative", name := "value", desc := "()Ljava/util/Optional;" } : Jvm.MethodName) prog_5_method_16_code (1 : Nat) (Option.some (Jvm.ClassFile.FieldType.object "java/util/Optional")), Jvm.Cond.code ({ cls := "com/example/operatory/operatory/fhir/SearchValue$Alternative", name := "prefix", desc := "()Ljava/util/Optional;" } : Jvm.MethodName) prog_5_method_9_code (1 : Nat) (Option.some (Jvm.ClassFile.FieldType.object "java/util/Optional")), Jvm.Cond.code ({ cls := "com/example/operatory/operatory/fhir/SearchValue$Alternative", name := "number", desc := "()Ljava/util/Optional;" } : Jvm.MethodName) prog_5_method_10_code (1 : Nat) (Option.some (Jvm.ClassFile.FieldType.object "java/util/Optional")), Jvm.Cond.code ({ cls := "com/example/operatory/operatory/fhir/SearchValue$Alternative", name := "type", desc := "()Ljava/util/Optional;" } : Jvm.MethodName) prog_5_method_17_code (1 : Nat) (Option.some (Jvm.ClassFile.FieldType.object "java/util/Optional")), Jvm.Cond.code ({ cls := "com/example/operatory/operatory/fhir/SearchValue$Alternative", name := "url", desc := "()Ljava/util/Optional;" } : Jvm.MethodName) prog_5_method_19_code (1 : Nat) (Option.some (Jvm.ClassFile.FieldType.object "java/util/Optional")), Jvm.Cond.code ({ cls := "com/example/operatory/operatory/fhir/SearchValue$Alternative", name := "missing", desc := "()Ljava/util/Optional;" } : Jvm.MethodName) prog_5_method_20_code (1 : Nat) (Option.some (Jvm.ClassFile.FieldType.object "java/util/Optional")), Jvm.Cond.code ({ cls := "java/lang/StringUTF16", name := "compress", desc := "([CII)[B" } : Jvm.MethodName) jdk_52_method_16_code (6 : Nat) (Option.some (Jvm.ClassFile.FieldType.array Jvm.ClassFile.FieldType.byte)), Jvm.Cond.code ({ cls := "java/lang/StringUTF16", name := "compress", desc := "([CI[BII)I" } : Jvm.MethodName) jdk_52_method_21_code (7 : Nat) (Option.some Jvm.ClassFile.FieldType.int), Jvm.Cond.code ({ cls := "java/lang/StringUTF16", name := "coderFromArrayLen", desc := "([BI)B" } : Jvm.MethodName) jdk_52_method_15_code (2 : Nat) (Option.some Jvm.ClassFile.FieldType.byte)]
set_option maxRecDepth 65536 in
theorem codes_eq : words1.filter isCode = codes1 := rfl
theorem w_codes : ∀ c ∈ words1.filter isCode, c.before args0 about1 = true := by
  rw [codes_eq]
  intro c hc
  simp only [codes1, List.mem_cons, List.not_mem_nil, or_false] at hc
  rcases hc with rfl | rfl | rfl | rfl | rfl | rfl | rfl | rfl | rfl | rfl | rfl | rfl | rfl | rfl | rfl | rfl | rfl | rfl | rfl | rfl | rfl | rfl | rfl
  · exact w_c0
  · exact w_c1
  · exact w_c2
  · exact w_c3
  · exact w_c4
  · exact w_c5
  · exact w_c6
  · exact w_c7
  · exact w_c8
  · exact w_c9
  · exact w_c10
  · exact w_c11
  · exact w_c12
  · exact w_c13
  · exact w_c14
  · exact w_c15
  · exact w_c16
  · exact w_c17
  · exact w_c18
  · exact w_c19
  · exact w_c20
  · exact w_c21
  · exact w_c22
set_option maxRecDepth 65536 in
theorem w_t1 : (words1.take 24).all (fun c => isCode c || c.before args0 about1) = true := by decide +kernel
set_option maxRecDepth 65536 in
theorem w_t2 : ((words1.drop 24).take 24).all (fun c => isCode c || c.before args0 about1) = true := by decide +kernel
set_option maxRecDepth 65536 in
theorem w_t3 : (((words1.drop 24).drop 24).take 24).all (fun c => isCode c || c.before args0 about1) = true := by decide +kernel
set_option maxRecDepth 65536 in
theorem w_t4 : ((((words1.drop 24).drop 24).drop 24).take 24).all (fun c => isCode c || c.before args0 about1) = true := by decide +kernel
set_option maxRecDepth 65536 in
theorem w_t5 : (((((words1.drop 24).drop 24).drop 24).drop 24).take 24).all (fun c => isCode c || c.before args0 about1) = true := by decide +kernel
set_option maxRecDepth 65536 in
theorem w_t6 : (((((words1.drop 24).drop 24).drop 24).drop 24).drop 24).all (fun c => isCode c || c.before args0 about1) = true := by decide +kernel
theorem w_tables : (allAtoms (Jvm.Cond.code x code maxLocals ret :: tables_1)).before args0 about1 = true := by
  rw [allAtoms_all]
  show words1.all (fun c => c.before args0 about1) = true
  refine all_split ?_ w_codes
  rw [← List.take_append_drop 24 words1, List.all_append, w_t1, ← List.take_append_drop 24 (words1.drop 24), List.all_append, w_t2, ← List.take_append_drop 24 ((words1.drop 24).drop 24), List.all_append, w_t3, ← List.take_append_drop 24 (((words1.drop 24).drop 24).drop 24), List.all_append, w_t4, ← List.take_append_drop 24 ((((words1.drop 24).drop 24).drop 24).drop 24), List.all_append, w_t5, w_t6]
  rfl
set_option maxRecDepth 65536 in
theorem w_rest : rest_1_c.before args0 about1 = true := by decide +kernel
set_option maxRecDepth 65536 in
theorem w_case : (Jvm.Cond.and given_1 narrow_1).before args0 about1 = true := by decide +kernel
set_option maxRecDepth 65536 in
theorem w_consts : constsHeld consts_1 about1 := Jvm.Lit.constsHeldB_iff.mp (by decide +kernel)
theorem w_applies : (headSpec (Jvm.Cond.code x code maxLocals ret :: tables_1) room_1).applies x e0.platform about1 = true :=
  (Spec.applies_iff w_frames).mpr ⟨w_running, w_runnable, w_alone, w_named, w_hears, w_ripe, w_room, w_tables⟩
theorem atStart : AtStart classFile x code maxLocals ret World_1 tables_1 room_1 Calls_1 rest_1 Pre_1 launch0 p0 e0 about1 theMethod args0 below0 :=
  ⟨lists_1, trivial, launch0.admits_env _ _ _, launch0.least_env, fairChoices_fair.cas, fairChoices_fair.clock, w_frames, w_args, w_heap, w_applies, ⟨w_consts, trivial⟩, w_rest, w_case⟩
end start1
theorem witness_1 : WitnessClaimed_1 := ⟨start1.p0, start1.e0, start1.about1, start1.theMethod, start1.args0, start1.below0, start1.atStart⟩
end Jvm.Pilot.@@N@@
