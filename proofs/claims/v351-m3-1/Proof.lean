import JvmDerived
import JvmDerived.Pilot.@@N@@Statement
import JvmDerived.Pilot.@@N@@Code
set_option linter.unusedVariables false
set_option linter.unusedSimpArgs false
/- laws to paste: Road.backV (cut by pick.py; bodies as the Statement names them) -/
namespace Jvm.Pilot.@@N@@
namespace StrChars
open Jvm Sem ClassFile Op Lib Jvm.Stand Jvm.Free.XT Jvm.Free.ALB Jvm.Free.JM Jvm.Free
open Jvm.Lib.Cold (StaticIs)
/-- a char array whose places are chars -/
def Ch (a : Addr) (A : Cell) (U : State) : Prop := Arr .char a A U ∧ Typed .char A
theorem Ch.mv {a : Addr} {A : Cell} {U U' : State} (h : Ch a A U) (hal : U.vm.Alike U'.vm) (hh : U'.heap = U.heap) : Ch a A U' := ⟨h.1.mv hal hh, h.2⟩
theorem Ch.keep {a : Addr} {A : Cell} {U U' : State} (h : Ch a A U) (hal : U.vm.Alike U'.vm) (hk : U'.heap[a]? = some A) : Ch a A U' := ⟨h.1.keep hal hk, h.2⟩
/-- what place i of a char[]'s cell holds -/
def cv (A : Cell) (i : Nat) : Int32 := match A.slots[i]? with | some (.int x) => x | _ => 0
theorem Ch.get {a : Addr} {A : Cell} {U : State} (h : Ch a A U) {i : Nat} (hi : i < A.slots.size) : A.slots[i]? = some (.int (cv A i)) := by
  have e := Array.getElem?_eq_getElem hi
  have f := h.2 i _ e
  unfold cv; rw [e]
  generalize A.slots[i] = v at f
  cases v <;> simp [fits] at f ⊢
/-- the byte that i2b leaves of a char -/
def lo8 (x : Int32) : Int32 := x.toInt8.toInt32
theorem fits_lo8 (y : Int32) : fits .byte (.int (lo8 y)) = true := by
  have h1 := y.toInt8.le_toInt
  have h2 := y.toInt8.toInt_lt
  simp only [lo8, fits, Bool.and_eq_true, decide_eq_true_eq, Int32.le_iff_toInt_le, Int8.toInt_toInt32, show (-128 : Int32).toInt = -128 from by decide, show (127 : Int32).toInt = 127 from by decide]
  omega
/-- A' is A but that each place j of lo .. hi - 1 holds f j -/
def Laid (A A' : Cell) (lo hi : Nat) (f : Nat → Value) : Prop := A'.cls = A.cls ∧ A'.vm = A.vm ∧ A'.slots.size = A.slots.size ∧ ∀ i, A'.slots[i]? = if lo ≤ i ∧ i < hi then some (f i) else A.slots[i]?
theorem Laid.zero (A : Cell) (lo : Nat) (f : Nat → Value) : Laid A A lo (lo + 0) f := ⟨rfl, rfl, rfl, fun i => by rw [if_neg (by omega)]⟩
theorem Laid.step {A Ak : Cell} {lo k : Nat} {f : Nat → Value} {v : Value} (h : Laid A Ak lo k f) (hlo : lo ≤ k) (hk : k < Ak.slots.size) (hv : v = f k) : Laid A (Ak.setSlot k v) lo (k + 1) f := by
  refine ⟨h.1, h.2.1, by simpa [Cell.setSlot] using h.2.2.1, fun i => ?_⟩
  by_cases e : k = i
  · subst e; rw [Cell.slots_setSlot_self v hk, if_pos (by omega), hv]
  · rw [Cell.slots_setSlot_ne v e, h.2.2.2 i]
    by_cases q : lo ≤ i ∧ i < k
    · rw [if_pos q, if_pos (by omega)]
    · rw [if_neg q, if_neg (by omega)]
def U16 : String := "java/lang/StringUTF16"
namespace Cmp5
def yN : MethodName := ⟨"java/lang/StringUTF16", "compress", "([CI[BII)I"⟩
abbrev yB : ByteArray := jdk_52_method_21_code
theorem d0 : decode yB 0 = .ok (.iconst 0, 1) := by decide +kernel
theorem d1 : decode yB 1 = .ok (.istore 5, 2) := by decide +kernel
theorem d3 : decode yB 3 = .ok (.iload 5, 2) := by decide +kernel
theorem d5 : decode yB 5 = .ok (.iload 4, 2) := by decide +kernel
theorem d7 : decode yB 7 = .ok (.if_icmp (.ge) 37, 3) := by decide +kernel
theorem d10 : decode yB 10 = .ok (.aload_n 0, 1) := by decide +kernel
theorem d11 : decode yB 11 = .ok (.iload_n 1, 1) := by decide +kernel
theorem d12 : decode yB 12 = .ok (.caload, 1) := by decide +kernel
theorem d13 : decode yB 13 = .ok (.istore 6, 2) := by decide +kernel
theorem d15 : decode yB 15 = .ok (.iload 6, 2) := by decide +kernel
theorem d17 : decode yB 17 = .ok (.sipush 255, 3) := by decide +kernel
theorem d20 : decode yB 20 = .ok (.if_icmp (.le) 6, 3) := by decide +kernel
theorem d26 : decode yB 26 = .ok (.aload_n 2, 1) := by decide +kernel
theorem d27 : decode yB 27 = .ok (.iload_n 3, 1) := by decide +kernel
theorem d28 : decode yB 28 = .ok (.iload 6, 2) := by decide +kernel
theorem d30 : decode yB 30 = .ok (.i2b, 1) := by decide +kernel
theorem d31 : decode yB 31 = .ok (.bastore, 1) := by decide +kernel
theorem d32 : decode yB 32 = .ok (.iinc 1 1, 3) := by decide +kernel
theorem d35 : decode yB 35 = .ok (.iinc 3 1, 3) := by decide +kernel
theorem d38 : decode yB 38 = .ok (.iinc 5 1, 3) := by decide +kernel
theorem d41 : decode yB 41 = .ok (.goto (-38), 3) := by decide +kernel
theorem d44 : decode yB 44 = .ok (.iload 4, 2) := by decide +kernel
theorem d46 : decode yB 46 = .ok (.ireturn, 1) := by decide +kernel
def site : List Cond := []
def tab : Cond := tabOf yN yB 7 (some .int) site
def P (b : Addr) (A : Cell) (d : Addr) (B : Cell) (o q len : Nat) (args : Array Value) (s : State) : Prop := args = #[.ref b, .int (Int32.ofNat o), .ref d, .int (Int32.ofNat q), .int (Int32.ofNat len)] ∧ Ch b A s ∧ Arr .byte d B s ∧ b ≠ d ∧ o + len ≤ A.slots.size ∧ q + len ≤ B.slots.size ∧ ∀ i, i < len → ¬ 255 < cv A (o + i)
def E (b : Addr) (A : Cell) (d : Addr) (B : Cell) (o q len : Nat) (r : Option Value) (s u : State) : Prop := r = some (.int (Int32.ofNat len)) ∧ ∃ B', Put d B' s u ∧ Laid B B' q (q + len) (fun j => Value.int (lo8 (cv A (o + (j - q)))))
/-- no char of the range above 255: len; the places written hold each char's low byte -/
theorem law (l : Launch) (b : Addr) (A : Cell) (d : Addr) (B : Cell) (o q len : Nat) : Law l yN 5 5 0 0 yB 7 (some .int) site (P b A d B o q len) (E b A d B o q len) (copyLocs d q len) 0 0 := by
  refine Law.of_walk (plainFor_of_name (by decide +kernel)) (by decide +kernel) (by decide +kernel) (by decide) (fun _ _ h => by rw [h.1]; rfl) (fun _ U U' hal hh h => ⟨h.1, h.2.1.mv hal hh, h.2.2.1.mv hal hh, h.2.2.2⟩) (fun r U U' V V' h1 hal h2 h => ⟨h.1, h.2.elim fun B' q => ⟨B', q.1.mv h1 h2, q.2⟩⟩) ?_
  intro p e s m args below meth c s₁ X0 hexec hbytes hml hret hlk hnm hown hh0 W hP
  obtain ⟨rfl, hA, hB, hne, l1, l2, hp⟩ := hP
  have c1 : Steps p.tables e below (s₁.setTop (entryFrame m #[.ref b, .int (Int32.ofNat o), .ref d, .int (Int32.ofNat q), .int (Int32.ofNat len)] 7)) (s₁.setTop (mkF m 0 #[.val (.ref b), .val (.int (Int32.ofNat o)), .val (.ref d), .val (.int (Int32.ofNat q)), .val (.int (Int32.ofNat len)), .unset, .unset] [])) := entry rfl
  have hA0 := hA.1.mv X0.warmed.alike hh0
  have hB0 := hB.mv X0.warmed.alike hh0
  have a31 := hA.1.2.2.2
  have c2 : Steps p.tables e below (s₁.setTop (entryFrame m #[.ref b, .int (Int32.ofNat o), .ref d, .int (Int32.ofNat q), .int (Int32.ofNat len)] 7)) (s₁.setTop (mkF m 3 #[.val (.ref b), .val (.int (Int32.ofNat o)), .val (.ref d), .val (.int (Int32.ofNat q)), .val (.int (Int32.ofNat len)), .val (.int 0), .unset] [])) := c1.trans (by
    refine iconstV X0.here hexec rfl 0 (hb hbytes d0) (by decide) ?_
    refine XS.istore X0.here hexec rfl (hb hbytes d1) rfl rfl ?_
    exact Steps.refl _)
  have loop : ∀ (r i : Nat), i + r = len → ∀ (z : Slot), (z = .unset ∨ ∃ w, z = .val w ∧ w.category = 1) → ∀ (Tl : State) (Bk : Cell), Stand p l e { frames := 0, locals := 0, cells := 0, slots := 0 } s m #[.ref b, .int (Int32.ofNat o), .ref d, .int (Int32.ofNat q), .int (Int32.ofNat len)] below meth c Tl ([] ++ copyLocs d q i) 0 0 → Put d Bk s₁ Tl → Laid B Bk q (q + i) (fun j => Value.int (lo8 (cv A (o + (j - q))))) →
      Steps p.tables e below (s₁.setTop (entryFrame m #[.ref b, .int (Int32.ofNat o), .ref d, .int (Int32.ofNat q), .int (Int32.ofNat len)] 7)) (Tl.setTop (mkF m 3 #[.val (.ref b), .val (.int (Int32.ofNat (o + i))), .val (.ref d), .val (.int (Int32.ofNat (q + i))), .val (.int (Int32.ofNat len)), .val (.int (Int32.ofNat i)), z] [])) → ∃ (T' : State) (B' : Cell) (z' : Slot), Stand p l e { frames := 0, locals := 0, cells := 0, slots := 0 } s m #[.ref b, .int (Int32.ofNat o), .ref d, .int (Int32.ofNat q), .int (Int32.ofNat len)] below meth c T' ([] ++ copyLocs d q len) 0 0 ∧ Put d B' s₁ T' ∧ Laid B B' q (q + len) (fun j => Value.int (lo8 (cv A (o + (j - q))))) ∧
      Steps p.tables e below (s₁.setTop (entryFrame m #[.ref b, .int (Int32.ofNat o), .ref d, .int (Int32.ofNat q), .int (Int32.ofNat len)] 7)) (T'.setTop (mkF m 3 #[.val (.ref b), .val (.int (Int32.ofNat (o + len))), .val (.ref d), .val (.int (Int32.ofNat (q + len))), .val (.int (Int32.ofNat len)), .val (.int (Int32.ofNat len)), z'] [])) := by
    intro r
    induction r with
    | zero =>
      intro i hi z hz Tl Bk Xl pl fl cl
      have hil : i = len := by omega
      rw [hil] at Xl fl cl
      exact ⟨Tl, Bk, z, Xl, pl, fl, cl⟩
    | succ r ih =>
      intro i hi z hz Tl Bk Xl pl fl cl
      have all := X0.warmed.alike.symm.trans Xl.warmed.alike
      have hAl := hA0.keep all (pl.other hne hA0.1)
      have hBk := hB0.like all pl.1 fl.1 fl.2.1 fl.2.2.1
      have hlt : q + i < Bk.slots.size := by rw [fl.2.2.1]; omega
      have c3 : Steps p.tables e below (s₁.setTop (entryFrame m #[.ref b, .int (Int32.ofNat o), .ref d, .int (Int32.ofNat q), .int (Int32.ofNat len)] 7)) (Tl.setTop (mkF m 12 #[.val (.ref b), .val (.int (Int32.ofNat (o + i))), .val (.ref d), .val (.int (Int32.ofNat (q + i))), .val (.int (Int32.ofNat len)), .val (.int (Int32.ofNat i)), z] [.int (Int32.ofNat (o + i)), .ref b])) := cl.trans (by
        refine XS.iload Xl.here hexec rfl (hb hbytes d3) rfl ?_
        refine XS.iload Xl.here hexec rfl (hb hbytes d5) rfl ?_
        refine XS.icmpNo Xl.here hexec rfl (hb hbytes d7) rfl (ii_ge_f (lt32 (by omega) (by omega))) ?_
        refine XS.aloadN Xl.here hexec rfl (hb hbytes d10) rfl rfl ?_
        refine XS.iloadN Xl.here hexec rfl (hb hbytes d11) rfl ?_
        exact Steps.refl _)
      have c4 : Steps p.tables e below (s₁.setTop (entryFrame m #[.ref b, .int (Int32.ofNat o), .ref d, .int (Int32.ofNat q), .int (Int32.ofNat len)] 7)) (Tl.setTop (mkF m 13 #[.val (.ref b), .val (.int (Int32.ofNat (o + i))), .val (.ref d), .val (.int (Int32.ofNat (q + i))), .val (.int (Int32.ofNat len)), .val (.int (Int32.ofNat i)), z] [.int (cv A (o + i))])) := c3.trans (by
        refine Xl.aget hexec hAl rfl (hA.get (i := o + i) (by omega)) rfl rfl (hb hbytes d12) ?_
        exact Steps.refl _)
      have c5 : Steps p.tables e below (s₁.setTop (entryFrame m #[.ref b, .int (Int32.ofNat o), .ref d, .int (Int32.ofNat q), .int (Int32.ofNat len)] 7)) (Tl.setTop (mkF m 15 #[.val (.ref b), .val (.int (Int32.ofNat (o + i))), .val (.ref d), .val (.int (Int32.ofNat (q + i))), .val (.int (Int32.ofNat len)), .val (.int (Int32.ofNat i)), .val (.int (cv A (o + i)))] [])) := c4.trans (by
        refine XS.istoreS Xl.here hexec rfl (hb hbytes d13) rfl rfl hz ?_
        exact Steps.refl _)
      have c6 : Steps p.tables e below (s₁.setTop (entryFrame m #[.ref b, .int (Int32.ofNat o), .ref d, .int (Int32.ofNat q), .int (Int32.ofNat len)] 7)) (Tl.setTop (mkF m 31 #[.val (.ref b), .val (.int (Int32.ofNat (o + i))), .val (.ref d), .val (.int (Int32.ofNat (q + i))), .val (.int (Int32.ofNat len)), .val (.int (Int32.ofNat i)), .val (.int (cv A (o + i)))] [.int (lo8 (cv A (o + i))), .int (Int32.ofNat (q + i)), .ref d])) := c5.trans (by
        refine XS.iload Xl.here hexec rfl (hb hbytes d15) rfl ?_
        refine sipushV Xl.here hexec rfl 255 (hb hbytes d17) (by decide) ?_
        refine XS.icmpYes Xl.here hexec rfl (pc0 := 20) rfl (hb hbytes d20) rfl (ii_le_t (hp i (by omega))) (by decide) rfl ?_
        refine XS.aloadN Xl.here hexec rfl (hb hbytes d26) rfl rfl ?_
        refine XS.iloadN Xl.here hexec rfl (hb hbytes d27) rfl ?_
        refine XS.iload Xl.here hexec rfl (hb hbytes d28) rfl ?_
        refine i2b Xl.here hexec rfl (hb hbytes d30) rfl ?_
        exact Steps.refl _)
      obtain ⟨T7, X7, p7, st7⟩ := Xl.aput hexec hBk rfl hlt rfl (fits_lo8 (cv A (o + i))) (g := (mkF m 31 #[.val (.ref b), .val (.int (Int32.ofNat (o + i))), .val (.ref d), .val (.int (Int32.ofNat (q + i))), .val (.int (Int32.ofNat len)), .val (.int (Int32.ofNat i)), .val (.int (cv A (o + i)))] [.int (lo8 (cv A (o + i))), .int (Int32.ofNat (q + i)), .ref d])) rfl (rest := []) rfl (hb hbytes d31)
      have c8 : Steps p.tables e below (s₁.setTop (entryFrame m #[.ref b, .int (Int32.ofNat o), .ref d, .int (Int32.ofNat q), .int (Int32.ofNat len)] 7)) (T7.setTop (mkF m 32 #[.val (.ref b), .val (.int (Int32.ofNat (o + i))), .val (.ref d), .val (.int (Int32.ofNat (q + i))), .val (.int (Int32.ofNat len)), .val (.int (Int32.ofNat i)), .val (.int (cv A (o + i)))] [])) := c6.trans (st7 _ (Steps.refl _))
      have c9 : Steps p.tables e below (s₁.setTop (entryFrame m #[.ref b, .int (Int32.ofNat o), .ref d, .int (Int32.ofNat q), .int (Int32.ofNat len)] 7)) (T7.setTop (mkF m 3 #[.val (.ref b), .val (.int (Int32.ofNat (o + i) + 1)), .val (.ref d), .val (.int (Int32.ofNat (q + i) + 1)), .val (.int (Int32.ofNat len)), .val (.int (Int32.ofNat i + 1)), .val (.int (cv A (o + i)))] [])) := c8.trans (by
        refine iincV X7.here hexec rfl 1 (hb hbytes d32) (by decide) rfl rfl ?_
        refine iincV X7.here hexec rfl 1 (hb hbytes d35) (by decide) rfl rfl ?_
        refine iincV X7.here hexec rfl 1 (hb hbytes d38) (by decide) rfl rfl ?_
        refine XS.goto X7.here hexec rfl (pc0 := 41) rfl (hb hbytes d41) (by decide) rfl ?_
        exact Steps.refl _)
      have c10 : Steps p.tables e below (s₁.setTop (entryFrame m #[.ref b, .int (Int32.ofNat o), .ref d, .int (Int32.ofNat q), .int (Int32.ofNat len)] 7)) (T7.setTop (mkF m 3 #[.val (.ref b), .val (.int (Int32.ofNat (o + (i + 1)))), .val (.ref d), .val (.int (Int32.ofNat (q + (i + 1)))), .val (.int (Int32.ofNat len)), .val (.int (Int32.ofNat (i + 1))), .val (.int (cv A (o + i)))] [])) := by
        have := c9
        rw [succ32, succ32, succ32] at this
        exact this
      exact ih (i + 1) (by omega) _ (Or.inr ⟨_, rfl, rfl⟩) T7 _ (by rw [copyLocs_step, ← List.append_assoc]; exact X7) (pl.trans p7) (fl.step (by omega) hlt (by simp)) c10
  obtain ⟨T9, B9, z9, X9, p9, f9, g9⟩ := loop len 0 (by omega) .unset (Or.inl rfl) s₁ B (by simpa [copyLocs] using X0) ⟨hB0.1, fun _ _ => rfl, rfl⟩ (Laid.zero _ _ _) c2
  have c11 : Steps p.tables e below (s₁.setTop (entryFrame m #[.ref b, .int (Int32.ofNat o), .ref d, .int (Int32.ofNat q), .int (Int32.ofNat len)] 7)) (T9.setTop (mkF m 46 #[.val (.ref b), .val (.int (Int32.ofNat (o + len))), .val (.ref d), .val (.int (Int32.ofNat (q + len))), .val (.int (Int32.ofNat len)), .val (.int (Int32.ofNat len)), z9] [.int (Int32.ofNat len)])) := g9.trans (by
    refine XS.iload X9.here hexec rfl (hb hbytes d3) rfl ?_
    refine XS.iload X9.here hexec rfl (hb hbytes d5) rfl ?_
    refine XS.icmpYes X9.here hexec rfl (pc0 := 7) rfl (hb hbytes d7) rfl (ii_ge_t (nlt32 (by omega) (Nat.le_refl _))) (by decide) rfl ?_
    refine XS.iload X9.here hexec rfl (hb hbytes d44) rfl ?_
    exact Steps.refl _)
  exact ⟨T9, some (.int (Int32.ofNat len)), _, _, _, X9, by simp, rfl, rfl, (fun h => by cases h), ⟨rfl, B9, p9.from hh0, f9⟩, fun fs hl => c11.trans (X9.ireturnOut hexec hret rfl (Or.inl rfl) (hb hbytes d46) hl)⟩
end Cmp5
namespace Cmp3
def yN : MethodName := ⟨"java/lang/StringUTF16", "compress", "([CII)[B"⟩
abbrev yB : ByteArray := jdk_52_method_16_code
theorem d0 : decode yB 0 = .ok (.iload_n 2, 1) := by decide +kernel
theorem d1 : decode yB 1 = .ok (.newarray .byte, 2) := by decide +kernel
theorem d3 : decode yB 3 = .ok (.astore_n 3, 1) := by decide +kernel
theorem d4 : decode yB 4 = .ok (.aload_n 0, 1) := by decide +kernel
theorem d5 : decode yB 5 = .ok (.iload_n 1, 1) := by decide +kernel
theorem d6 : decode yB 6 = .ok (.aload_n 3, 1) := by decide +kernel
theorem d7 : decode yB 7 = .ok (.iconst 0, 1) := by decide +kernel
theorem d8 : decode yB 8 = .ok (.iload_n 2, 1) := by decide +kernel
theorem d9 : decode yB 9 = .ok (.invokestatic 115, 3) := by decide +kernel
theorem d12 : decode yB 12 = .ok (.istore 4, 2) := by decide +kernel
theorem d14 : decode yB 14 = .ok (.iload 4, 2) := by decide +kernel
theorem d16 : decode yB 16 = .ok (.iload_n 2, 1) := by decide +kernel
theorem d17 : decode yB 17 = .ok (.if_icmp (.eq) 40, 3) := by decide +kernel
theorem d57 : decode yB 57 = .ok (.aload_n 3, 1) := by decide +kernel
theorem d58 : decode yB 58 = .ok (.areturn, 1) := by decide +kernel
def site : List Cond := [.arrayClass .byte, Cmp5.tab] ++ staticW U16 115 Cmp5.yN
def tab : Cond := tabOf yN yB 6 (some (.array .byte)) site
def P (b : Addr) (A : Cell) (o len : Nat) (args : Array Value) (s : State) : Prop := args = #[.ref b, .int (Int32.ofNat o), .int (Int32.ofNat len)] ∧ Ch b A s ∧ o + len ≤ A.slots.size ∧ len ≤ 536870912 ∧ ∀ i, i < len → ¬ 255 < cv A (o + i)
def E (b : Addr) (A : Cell) (o len : Nat) (r : Option Value) (s u : State) : Prop := NewArr .byte "[B" len (fun j => .int (lo8 (cv A (o + j)))) r s u ∧ u.heap.size = s.heap.size + 1
/-- no char of the range above 255: a new byte[] of their low bytes -/
theorem law (l : Launch) (b : Addr) (A : Cell) (o len : Nat) : Law l yN 3 3 1 18 yB 6 (some (.array .byte)) site (P b A o len) (E b A o len) [] 1 len := by
  refine Law.of_walk (plainFor_of_name (by decide +kernel)) (by decide +kernel) (by decide +kernel) (by decide) (fun _ _ h => by rw [h.1]; rfl) (fun _ U U' hal hh h => ⟨h.1, h.2.1.mv hal hh, h.2.2⟩) (fun r U U' V V' h1 hal h2 h => ⟨NewArr.mv r U U' V V' h1 hal h2 h.1, by rw [h1, h2]; exact h.2⟩) ?_
  intro p e s m args below meth c s₁ X0 hexec hbytes hml hret hlk hnm hown hh0 W hP
  obtain ⟨rfl, hA, l1, l2, hp⟩ := hP
  have a31 := hA.1.2.2.2
  have c1 : Steps p.tables e below (s₁.setTop (entryFrame m #[.ref b, .int (Int32.ofNat o), .int (Int32.ofNat len)] 6)) (s₁.setTop (mkF m 0 #[.val (.ref b), .val (.int (Int32.ofNat o)), .val (.int (Int32.ofNat len)), .unset, .unset, .unset] [])) := entry rfl
  have c2 : Steps p.tables e below (s₁.setTop (entryFrame m #[.ref b, .int (Int32.ofNat o), .int (Int32.ofNat len)] 6)) (s₁.setTop (mkF m 1 #[.val (.ref b), .val (.int (Int32.ofNat o)), .val (.int (Int32.ofNat len)), .unset, .unset, .unset] [.int (Int32.ofNat len)])) := c1.trans (by
    refine XS.iloadN X0.here hexec rfl (hb hbytes d0) rfl ?_
    exact Steps.refl _)
  obtain ⟨T3, B3, X3, ba3, bs3, bv3, bh3, bf3, st3⟩ := X0.anew hexec (atype := .byte) (wk W (.arrayClass .byte)) rfl (by show len * 1 ≤ _; omega) (by omega) (g := (mkF m 1 #[.val (.ref b), .val (.int (Int32.ofNat o)), .val (.int (Int32.ofNat len)), .unset, .unset, .unset] [.int (Int32.ofNat len)])) rfl (hb hbytes d1) (rest := []) rfl (Nat.le_refl _) (by show 0 + len ≤ len; omega)
  rw [hh0] at ba3 st3
  have kp3 : XT.Kept s T3 := (XT.Kept.of_eq hh0).push bh3
  have hA3 := hA.keep X3.warmed.alike (kp3 _ _ hA.1.1)
  have hne : b ≠ s.heap.size := hA.1.ne
  have c4 : Steps p.tables e below (s₁.setTop (entryFrame m #[.ref b, .int (Int32.ofNat o), .int (Int32.ofNat len)] 6)) (T3.setTop (mkF m 3 #[.val (.ref b), .val (.int (Int32.ofNat o)), .val (.int (Int32.ofNat len)), .unset, .unset, .unset] [.ref s.heap.size])) := c2.trans (st3 _ (Steps.refl _))
  have c5 : Steps p.tables e below (s₁.setTop (entryFrame m #[.ref b, .int (Int32.ofNat o), .int (Int32.ofNat len)] 6)) (T3.setTop (mkF m 9 #[.val (.ref b), .val (.int (Int32.ofNat o)), .val (.int (Int32.ofNat len)), .val (.ref s.heap.size), .unset, .unset] [.int (Int32.ofNat len), .int 0, .ref s.heap.size, .int (Int32.ofNat o), .ref b])) := c4.trans (by
    refine XS.astoreN X3.here hexec rfl (hb hbytes d3) rfl rfl rfl ?_
    refine XS.aloadN X3.here hexec rfl (hb hbytes d4) rfl rfl ?_
    refine XS.iloadN X3.here hexec rfl (hb hbytes d5) rfl ?_
    refine XS.aloadN X3.here hexec rfl (hb hbytes d6) rfl rfl ?_
    refine iconstV X3.here hexec rfl 0 (hb hbytes d7) (by decide) ?_
    refine XS.iloadN X3.here hexec rfl (hb hbytes d8) rfl ?_
    exact Steps.refl _)
  obtain ⟨v6, T6, X6, E6, g6⟩ := X3.callS hexec (Cmp5.law l b A s.heap.size B3 o 0 len) hown (wks W (staticW U16 115 Cmp5.yN)) (wk W Cmp5.tab) (W := 0) (Nat.le_of_ble_eq_true rfl) (Nat.le_of_ble_eq_true rfl) (Nat.le_refl _) (by show 0 + len + 0 ≤ len; omega) (g := (mkF m 9 #[.val (.ref b), .val (.int (Int32.ofNat o)), .val (.int (Int32.ofNat len)), .val (.ref s.heap.size), .unset, .unset] [.int (Int32.ofNat len), .int (Int32.ofNat 0), .ref s.heap.size, .int (Int32.ofNat o), .ref b])) rfl (by rw [hml]; rfl) c5 (argsL := [.ref b, .int (Int32.ofNat o), .ref s.heap.size, .int (Int32.ofNat 0), .int (Int32.ofNat len)]) (rest := []) rfl rfl (by show 2 * 0 + 0 ≤ _; decide) (hb hbytes d9) (⟨rfl, hA3, ba3, hne, l1, by rw [bs3]; simp, hp⟩)
  obtain ⟨rfl, B6, p6, f6⟩ := E6
  have c7 : Steps p.tables e below (s₁.setTop (entryFrame m #[.ref b, .int (Int32.ofNat o), .int (Int32.ofNat len)] 6)) (T6.setTop (mkF m 12 #[.val (.ref b), .val (.int (Int32.ofNat o)), .val (.int (Int32.ofNat len)), .val (.ref s.heap.size), .unset, .unset] [.int (Int32.ofNat len)])) := g6
  have c8 : Steps p.tables e below (s₁.setTop (entryFrame m #[.ref b, .int (Int32.ofNat o), .int (Int32.ofNat len)] 6)) (T6.setTop (mkF m 58 #[.val (.ref b), .val (.int (Int32.ofNat o)), .val (.int (Int32.ofNat len)), .val (.ref s.heap.size), .val (.int (Int32.ofNat len)), .unset] [.ref s.heap.size])) := c7.trans (by
    refine XS.istore X6.here hexec rfl (hb hbytes d12) rfl rfl ?_
    refine XS.iload X6.here hexec rfl (hb hbytes d14) rfl ?_
    refine XS.iloadN X6.here hexec rfl (hb hbytes d16) rfl ?_
    refine XS.icmpYes X6.here hexec rfl (pc0 := 17) rfl (hb hbytes d17) rfl (ii_eq_t rfl) (by decide) rfl ?_
    refine XS.aloadN X6.here hexec rfl (hb hbytes d57) rfl rfl ?_
    exact Steps.refl _)
  have X8 := X6.wide (L' := []) (cells' := 1) (slots' := len) (fun x hx hlt => by
    simp only [List.nil_append, copyLocs, List.mem_map, List.mem_range] at hx
    obtain ⟨i, -, rfl⟩ := hx
    exact absurd hlt (Nat.lt_irrefl _)) (Nat.le_refl _) (by omega)
  exact ⟨T6, some (.ref s.heap.size), _, _, _, X8, rfl, rfl, rfl, (fun h => by cases h), ⟨⟨rfl, B6, ba3.like (X3.warmed.alike.symm.trans X6.warmed.alike) p6.1 f6.1 f6.2.1 f6.2.2.1, f6.2.1.trans bv3, by rw [X6.warmed.alike.findClass, f6.1]; exact bf3, by rw [f6.2.2.1, bs3]; simp, fun j hj => by rw [f6.2.2.2 j, if_pos (by omega)]; rfl, kp3.put p6 (Nat.le_refl _)⟩, by rw [p6.2.2, bh3, hh0]; simp⟩, fun fs hl => c8.trans (X8.areturnOut hexec rfl hret rfl (hb hbytes d58) hl)⟩
end Cmp3
namespace CodL
def yN : MethodName := ⟨"java/lang/StringUTF16", "coderFromArrayLen", "([BI)B"⟩
abbrev yB : ByteArray := jdk_52_method_15_code
theorem d0 : decode yB 0 = .ok (.iload_n 1, 1) := by decide +kernel
theorem d1 : decode yB 1 = .ok (.aload_n 0, 1) := by decide +kernel
theorem d2 : decode yB 2 = .ok (.arraylength, 1) := by decide +kernel
theorem d3 : decode yB 3 = .ok (.isub, 1) := by decide +kernel
theorem d4 : decode yB 4 = .ok (.bipush 31, 2) := by decide +kernel
theorem d6 : decode yB 6 = .ok (.iushr, 1) := by decide +kernel
theorem d7 : decode yB 7 = .ok (.i2b, 1) := by decide +kernel
theorem d8 : decode yB 8 = .ok (.ireturn, 1) := by decide +kernel
def site : List Cond := []
def tab : Cond := tabOf yN yB 2 (some .byte) site
def P (d : Addr) (B : Cell) (args : Array Value) (s : State) : Prop := args = #[.ref d, .int (Int32.ofNat B.slots.size)] ∧ Arr .byte d B s
def E (r : Option Value) (s u : State) : Prop := XT.PureE (some (.int 0)) r s u
/-- an array as long as the number of chars: LATIN1 -/
theorem law (l : Launch) (d : Addr) (B : Cell) : Law l yN 2 2 0 0 yB 2 (some .byte) site (P d B) E [] 0 0 := by
  refine Law.of_walk (plainFor_of_name (by decide +kernel)) (by decide +kernel) (by decide +kernel) (by decide) (fun _ _ h => by rw [h.1]; rfl) (fun _ U U' hal hh h => ⟨h.1, h.2.mv hal hh⟩) (fun r U U' V V' h1 hal h2 h => XT.PureE.mv r U U' V V' h1 hal h2 h) ?_
  intro p e s m args below meth c s₁ X0 hexec hbytes hml hret hlk hnm hown hh0 W hP
  obtain ⟨rfl, hB⟩ := hP
  have hB0 := hB.mv X0.warmed.alike hh0
  have c1 : Steps p.tables e below (s₁.setTop (entryFrame m #[.ref d, .int (Int32.ofNat B.slots.size)] 2)) (s₁.setTop (mkF m 0 #[.val (.ref d), .val (.int (Int32.ofNat B.slots.size))] [])) := entry rfl
  have c2 : Steps p.tables e below (s₁.setTop (entryFrame m #[.ref d, .int (Int32.ofNat B.slots.size)] 2)) (s₁.setTop (mkF m 2 #[.val (.ref d), .val (.int (Int32.ofNat B.slots.size))] [.ref d, .int (Int32.ofNat B.slots.size)])) := c1.trans (by
    refine XS.iloadN X0.here hexec rfl (hb hbytes d0) rfl ?_
    refine XS.aloadN X0.here hexec rfl (hb hbytes d1) rfl rfl ?_
    exact Steps.refl _)
  have c3 : Steps p.tables e below (s₁.setTop (entryFrame m #[.ref d, .int (Int32.ofNat B.slots.size)] 2)) (s₁.setTop (mkF m 8 #[.val (.ref d), .val (.int (Int32.ofNat B.slots.size))] [.int (lo8 (ushr (Int32.ofNat B.slots.size - Int32.ofNat B.slots.size) 31))])) := c2.trans (by
    refine X0.alen hexec hB0 rfl rfl (hb hbytes d2) ?_
    refine XS.isub X0.here hexec rfl (hb hbytes d3) rfl ?_
    refine bipushV X0.here hexec rfl 31 (hb hbytes d4) (by decide) ?_
    refine iushr X0.here hexec rfl (hb hbytes d6) rfl ?_
    refine i2b X0.here hexec rfl (hb hbytes d7) rfl ?_
    exact Steps.refl _)
  have e0 : lo8 (ushr (Int32.ofNat B.slots.size - Int32.ofNat B.slots.size) 31) = 0 := by rw [Int32.sub_self]; decide
  rw [e0] at c3
  exact ⟨s₁, some (.int 0), _, _, _, X0, rfl, rfl, rfl, (fun h => by cases h), ⟨rfl, hh0⟩, fun fs hl => c3.trans (X0.ireturnOut hexec hret rfl (Or.inr (Or.inr (Or.inl rfl))) (hb hbytes d8) hl)⟩
end CodL
/-- the String at a is Latin-1 over a new byte[] (the heap's one new cell): the low bytes of the len chars of A from o on; every cell but a is kept -/
def Got (a : Addr) (D : Cell) (fV fC : Field) (A : Cell) (o len : Nat) (r : Option Value) (s u : State) : Prop := r = none ∧ ∃ D' V : Cell, Blank "java/lang/String" a D' u ∧ Same D D' [fV.slot, fC.slot] ∧ D'.slots[fV.slot]? = some (.ref s.heap.size) ∧ D'.slots[fC.slot]? = some (.int 0) ∧ Arr .byte s.heap.size V u ∧ V.vm = .none ∧ u.vm.findClass "[B" = some V.cls ∧ V.slots.size = len ∧ (∀ j, j < len → V.slots[j]? = some (.int (lo8 (cv A (o + j))))) ∧ (∀ (y : Addr) (c : Cell), y ≠ a → s.heap[y]? = some c → u.heap[y]? = some c) ∧ u.heap.size = s.heap.size + 1
theorem Got.mv {a : Addr} {D A : Cell} {fV fC : Field} {o len : Nat} : ∀ r (U U' V V' : State), U'.heap = U.heap → V.vm.Alike V'.vm → V'.heap = V.heap → Got a D fV fC A o len r U V → Got a D fV fC A o len r U' V' :=
  fun r U U' V V' h1 hal h2 ⟨e0, D', X, a1, a2, a3, a4, a5, a6, a7, a8, a9, a10, a11⟩ => ⟨e0, D', X, a1.mv hal h2, a2, by rw [h1]; exact a3, a4, by rw [h1]; exact a5.mv hal h2, a6, by rw [hal.findClass]; exact a7, a8, a9, by rw [h1, h2]; exact a10, by rw [h1, h2]; exact a11⟩
namespace New4
def yN : MethodName := ⟨"java/lang/String", "<init>", "([CIILjava/lang/Void;)V"⟩
abbrev yB : ByteArray := jdk_42_method_149_code
theorem d0 : decode yB 0 = .ok (.aload_n 0, 1) := by decide +kernel
theorem d1 : decode yB 1 = .ok (.invokespecial 1, 3) := by decide +kernel
theorem d4 : decode yB 4 = .ok (.iload_n 3, 1) := by decide +kernel
theorem d5 : decode yB 5 = .ok (.ifCond (.ne) 22, 3) := by decide +kernel
theorem d27 : decode yB 27 = .ok (.getstatic 38, 3) := by decide +kernel
theorem d30 : decode yB 30 = .ok (.ifCond (.eq) 28, 3) := by decide +kernel
theorem d33 : decode yB 33 = .ok (.aload_n 1, 1) := by decide +kernel
theorem d34 : decode yB 34 = .ok (.iload_n 2, 1) := by decide +kernel
theorem d35 : decode yB 35 = .ok (.iload_n 3, 1) := by decide +kernel
theorem d36 : decode yB 36 = .ok (.invokestatic 177, 3) := by decide +kernel
theorem d39 : decode yB 39 = .ok (.astore 5, 2) := by decide +kernel
theorem d41 : decode yB 41 = .ok (.aload_n 0, 1) := by decide +kernel
theorem d42 : decode yB 42 = .ok (.aload 5, 2) := by decide +kernel
theorem d44 : decode yB 44 = .ok (.iload_n 3, 1) := by decide +kernel
theorem d45 : decode yB 45 = .ok (.invokestatic 47, 3) := by decide +kernel
theorem d48 : decode yB 48 = .ok (.putfield 15, 3) := by decide +kernel
theorem d51 : decode yB 51 = .ok (.aload_n 0, 1) := by decide +kernel
theorem d52 : decode yB 52 = .ok (.aload 5, 2) := by decide +kernel
theorem d54 : decode yB 54 = .ok (.putfield 9, 3) := by decide +kernel
theorem d57 : decode yB 57 = .ok (.return_, 1) := by decide +kernel
def site : List Cond := [.fieldLink "java/lang/String" 38 "java/lang/String" "COMPACT_STRINGS" "Z", Cmp3.tab, CodL.tab, .laysFinal "java/lang/String" "java/lang/String" "value" "[B", .fieldLink "java/lang/String" 9 "java/lang/String" "value" "[B", .laysFinal "java/lang/String" "java/lang/String" "coder" "B", .fieldLink "java/lang/String" 15 "java/lang/String" "coder" "B"] ++ objW "java/lang/String" 1 ++ staticW "java/lang/String" 177 Cmp3.yN ++ staticW "java/lang/String" 47 CodL.yN
def tab : Cond := tabOf yN yB 6 none site
def P (a : Addr) (D : Cell) (fV fC : Field) (b : Addr) (A : Cell) (z : Int32) (o len : Nat) (args : Array Value) (s : State) : Prop := args = #[.ref a, .ref b, .int (Int32.ofNat o), .int (Int32.ofNat len), .null] ∧ Blank "java/lang/String" a D s ∧ Found "java/lang/String" "value" "[B" fV s ∧ Found "java/lang/String" "coder" "B" fC s ∧ Ch b A s ∧ StaticIs s "java/lang/String" "COMPACT_STRINGS" "Z" (.int z) ∧ ¬ z = 0 ∧ 0 < len ∧ o + len ≤ A.slots.size ∧ len ≤ 536870912 ∧ ∀ i, i < len → ¬ 255 < cv A (o + i)
def E (a : Addr) (D : Cell) (fV fC : Field) (A : Cell) (o len : Nat) (r : Option Value) (s u : State) : Prop := Got a D fV fC A o len r s u
/-- len > 0, no char of the range above 255: a Latin-1 String of their low bytes -/
theorem law (l : Launch) (a : Addr) (D : Cell) (fV fC : Field) (b : Addr) (A : Cell) (z : Int32) (o len : Nat) : Law l yN 5 4 2 35 yB 6 none site (P a D fV fC b A z o len) (E a D fV fC A o len) [⟨a, fC.slot⟩, ⟨a, fV.slot⟩] 1 len := by
  refine Law.of_walk (plainFor_of_name (by decide +kernel)) (by decide +kernel) (by decide +kernel) (by decide) (fun _ _ h => by rw [h.1]; rfl) (fun _ U U' hal hh h => ⟨h.1, h.2.1.mv hal hh, h.2.2.1.al hal, h.2.2.2.1.al hal, h.2.2.2.2.1.mv hal hh, h.2.2.2.2.2.1.there hal hh, h.2.2.2.2.2.2⟩) (fun r U U' V V' h1 hal h2 h => Got.mv r U U' V V' h1 hal h2 h) ?_
  intro p e s m args below meth c s₁ X0 hexec hbytes hml hret hlk hnm hown hh0 W hP
  obtain ⟨rfl, hB, f1, f2, hA, s1, hz, l0, l1, l2, hp⟩ := hP
  have a31 := hA.1.2.2.2
  have c1 : Steps p.tables e below (s₁.setTop (entryFrame m #[.ref a, .ref b, .int (Int32.ofNat o), .int (Int32.ofNat len), .null] 6)) (s₁.setTop (mkF m 0 #[.val (.ref a), .val (.ref b), .val (.int (Int32.ofNat o)), .val (.int (Int32.ofNat len)), .val .null, .unset] [])) := entry rfl
  have c2 : Steps p.tables e below (s₁.setTop (entryFrame m #[.ref a, .ref b, .int (Int32.ofNat o), .int (Int32.ofNat len), .null] 6)) (s₁.setTop (mkF m 1 #[.val (.ref a), .val (.ref b), .val (.int (Int32.ofNat o)), .val (.int (Int32.ofNat len)), .val .null, .unset] [.ref a])) := c1.trans (by
    refine XS.aloadN X0.here hexec rfl (hb hbytes d0) rfl rfl ?_
    exact Steps.refl _)
  obtain ⟨T3, X3, q3, st3⟩ := X0.oinit hexec hown (wks W (objW "java/lang/String" 1)) (g := (mkF m 1 #[.val (.ref a), .val (.ref b), .val (.int (Int32.ofNat o)), .val (.int (Int32.ofNat len)), .val .null, .unset] [.ref a])) rfl (by rw [hml]; rfl) (rest := []) rfl (hb hbytes d1) (W := 0) (by show 2 * 0 + 0 ≤ _; decide) (Nat.le_of_ble_eq_true rfl) (Nat.le_of_ble_eq_true rfl)
  have hh3 := q3.trans hh0
  have c4 : Steps p.tables e below (s₁.setTop (entryFrame m #[.ref a, .ref b, .int (Int32.ofNat o), .int (Int32.ofNat len), .null] 6)) (T3.setTop (mkF m 27 #[.val (.ref a), .val (.ref b), .val (.int (Int32.ofNat o)), .val (.int (Int32.ofNat len)), .val .null, .unset] [])) := (c2.trans (st3 _ (Steps.refl _))).trans (by
    refine XS.iloadN X3.here hexec rfl (hb hbytes d4) rfl ?_
    refine XS.ifYes X3.here hexec rfl (pc0 := 5) rfl (hb hbytes d5) rfl (i0_ne_t (nz32 (by omega) l0)) (by decide) rfl ?_
    exact Steps.refl _)
  obtain ⟨T5, X5, q5, st5⟩ := X3.sget hexec hown (wk W (.fieldLink "java/lang/String" 38 "java/lang/String" "COMPACT_STRINGS" "Z")) s1 (fun _ _ h => by rw [hh3]; exact h) (g := (mkF m 27 #[.val (.ref a), .val (.ref b), .val (.int (Int32.ofNat o)), .val (.int (Int32.ofNat len)), .val .null, .unset] [])) rfl (hb hbytes d27)
  have hh5 := q5.trans hh3
  have c6 : Steps p.tables e below (s₁.setTop (entryFrame m #[.ref a, .ref b, .int (Int32.ofNat o), .int (Int32.ofNat len), .null] 6)) (T5.setTop (mkF m 30 #[.val (.ref a), .val (.ref b), .val (.int (Int32.ofNat o)), .val (.int (Int32.ofNat len)), .val .null, .unset] [.int z])) := c4.trans (st5 _ (Steps.refl _))
  have c7 : Steps p.tables e below (s₁.setTop (entryFrame m #[.ref a, .ref b, .int (Int32.ofNat o), .int (Int32.ofNat len), .null] 6)) (T5.setTop (mkF m 36 #[.val (.ref a), .val (.ref b), .val (.int (Int32.ofNat o)), .val (.int (Int32.ofNat len)), .val .null, .unset] [.int (Int32.ofNat len), .int (Int32.ofNat o), .ref b])) := c6.trans (by
    refine XS.ifNo X5.here hexec rfl (hb hbytes d30) rfl (i0_eq_f hz) ?_
    refine XS.aloadN X5.here hexec rfl (hb hbytes d33) rfl rfl ?_
    refine XS.iloadN X5.here hexec rfl (hb hbytes d34) rfl ?_
    refine XS.iloadN X5.here hexec rfl (hb hbytes d35) rfl ?_
    exact Steps.refl _)
  obtain ⟨v8, T8, X8, E8, g8⟩ := X5.callS hexec (Cmp3.law l b A o len) hown (wks W (staticW "java/lang/String" 177 Cmp3.yN)) (wk W Cmp3.tab) (W := 0) (Nat.le_of_ble_eq_true rfl) (Nat.le_of_ble_eq_true rfl) (Nat.le_refl _) (by show 0 + len ≤ len; omega) (g := (mkF m 36 #[.val (.ref a), .val (.ref b), .val (.int (Int32.ofNat o)), .val (.int (Int32.ofNat len)), .val .null, .unset] [.int (Int32.ofNat len), .int (Int32.ofNat o), .ref b])) rfl (by rw [hml]; rfl) c7 (argsL := [.ref b, .int (Int32.ofNat o), .int (Int32.ofNat len)]) (rest := []) rfl rfl (by show 2 * 0 + 0 ≤ _; decide) (hb hbytes d36) (⟨rfl, hA.mv X5.warmed.alike hh5, l1, l2, hp⟩)
  obtain ⟨e8, z8⟩ := E8
  obtain ⟨rfl, N, n1, n2, n3, n4, n5, n6⟩ := NewArr.mv _ T5 s _ _ hh5.symm (Vm.Alike.refl _) rfl e8
  rw [hh5] at z8
  have hB1 := hB.keep X8.warmed.alike (n6 _ _ hB.1)
  have hne : s.heap.size ≠ a := (Nat.ne_of_lt (Array.getElem?_eq_some_iff.mp hB.1).1).symm
  have c9 : Steps p.tables e below (s₁.setTop (entryFrame m #[.ref a, .ref b, .int (Int32.ofNat o), .int (Int32.ofNat len), .null] 6)) (T8.setTop (mkF m 39 #[.val (.ref a), .val (.ref b), .val (.int (Int32.ofNat o)), .val (.int (Int32.ofNat len)), .val .null, .unset] [.ref s.heap.size])) := g8
  have c10 : Steps p.tables e below (s₁.setTop (entryFrame m #[.ref a, .ref b, .int (Int32.ofNat o), .int (Int32.ofNat len), .null] 6)) (T8.setTop (mkF m 45 #[.val (.ref a), .val (.ref b), .val (.int (Int32.ofNat o)), .val (.int (Int32.ofNat len)), .val .null, .val (.ref s.heap.size)] [.int (Int32.ofNat N.slots.size), .ref s.heap.size, .ref a])) := by
    have hc : Steps p.tables e below (s₁.setTop (entryFrame m #[.ref a, .ref b, .int (Int32.ofNat o), .int (Int32.ofNat len), .null] 6)) (T8.setTop (mkF m 45 #[.val (.ref a), .val (.ref b), .val (.int (Int32.ofNat o)), .val (.int (Int32.ofNat len)), .val .null, .val (.ref s.heap.size)] [.int (Int32.ofNat len), .ref s.heap.size, .ref a])) := c9.trans (by
      refine XS.astore X8.here hexec rfl (hb hbytes d39) rfl rfl rfl ?_
      refine XS.aloadN X8.here hexec rfl (hb hbytes d41) rfl rfl ?_
      refine XS.aload X8.here hexec rfl (hb hbytes d42) rfl rfl ?_
      refine XS.iloadN X8.here hexec rfl (hb hbytes d44) rfl ?_
      exact Steps.refl _)
    rw [n4]; exact hc
  obtain ⟨v11, T11, X11, E11, g11⟩ := X8.callS hexec (CodL.law l s.heap.size N) hown (wks W (staticW "java/lang/String" 47 CodL.yN)) (wk W CodL.tab) (W := 1) (Nat.le_of_ble_eq_true rfl) (Nat.le_of_ble_eq_true rfl) (Nat.le_refl _) (by show 0 + len + 0 ≤ len; omega) (g := (mkF m 45 #[.val (.ref a), .val (.ref b), .val (.int (Int32.ofNat o)), .val (.int (Int32.ofNat len)), .val .null, .val (.ref s.heap.size)] [.int (Int32.ofNat N.slots.size), .ref s.heap.size, .ref a])) rfl (by rw [hml]; rfl) c10 (argsL := [.ref s.heap.size, .int (Int32.ofNat N.slots.size)]) (rest := [.ref a]) rfl rfl (by show 2 * 0 + (1 + 0) ≤ _; decide) (hb hbytes d45) (⟨rfl, n1⟩)
  obtain ⟨rfl, q11⟩ := E11
  have hB11 := hB1.mv (X8.warmed.alike.symm.trans X11.warmed.alike) q11
  have c12 : Steps p.tables e below (s₁.setTop (entryFrame m #[.ref a, .ref b, .int (Int32.ofNat o), .int (Int32.ofNat len), .null] 6)) (T11.setTop (mkF m 48 #[.val (.ref a), .val (.ref b), .val (.int (Int32.ofNat o)), .val (.int (Int32.ofNat len)), .val .null, .val (.ref s.heap.size)] [.int 0, .ref a])) := g11
  obtain ⟨T13, X13, p13, bl13, sl13, st13⟩ := X11.finit hexec hown (wk W (.fieldLink "java/lang/String" 15 "java/lang/String" "coder" "B")) (Or.inr ⟨_, (wk W (.laysFinal "java/lang/String" "java/lang/String" "coder" "B"))⟩) (Or.inl ⟨rfl, hnm⟩) f2 (Or.inl rfl) hB11 (t := .byte) (by decide +kernel) rfl (g := (mkF m 48 #[.val (.ref a), .val (.ref b), .val (.int (Int32.ofNat o)), .val (.int (Int32.ofNat len)), .val .null, .val (.ref s.heap.size)] [.int 0, .ref a])) rfl (rest := []) rfl (hb hbytes d48)
  have c14 : Steps p.tables e below (s₁.setTop (entryFrame m #[.ref a, .ref b, .int (Int32.ofNat o), .int (Int32.ofNat len), .null] 6)) (T13.setTop (mkF m 54 #[.val (.ref a), .val (.ref b), .val (.int (Int32.ofNat o)), .val (.int (Int32.ofNat len)), .val .null, .val (.ref s.heap.size)] [.ref s.heap.size, .ref a])) := (c12.trans (st13 _ (Steps.refl _))).trans (by
    refine XS.aloadN X13.here hexec rfl (hb hbytes d51) rfl rfl ?_
    refine XS.aload X13.here hexec rfl (hb hbytes d52) rfl rfl ?_
    exact Steps.refl _)
  obtain ⟨T15, X15, p15, bl15, sl15, st15⟩ := X13.finit hexec hown (wk W (.fieldLink "java/lang/String" 9 "java/lang/String" "value" "[B")) (Or.inr ⟨_, (wk W (.laysFinal "java/lang/String" "java/lang/String" "value" "[B"))⟩) (Or.inl ⟨rfl, hnm⟩) f1 (Or.inl rfl) bl13 (t := (.array .byte)) (by decide +kernel) rfl (g := (mkF m 54 #[.val (.ref a), .val (.ref b), .val (.int (Int32.ofNat o)), .val (.int (Int32.ofNat len)), .val .null, .val (.ref s.heap.size)] [.ref s.heap.size, .ref a])) rfl (rest := []) rfl (hb hbytes d54)
  have c16 : Steps p.tables e below (s₁.setTop (entryFrame m #[.ref a, .ref b, .int (Int32.ofNat o), .int (Int32.ofNat len), .null] 6)) (T15.setTop (mkF m 57 #[.val (.ref a), .val (.ref b), .val (.int (Int32.ofNat o)), .val (.int (Int32.ofNat len)), .val .null, .val (.ref s.heap.size)] [])) := c14.trans (st15 _ (Steps.refl _))
  have ap := apart (Or.inr ⟨_, (wk W (.laysFinal "java/lang/String" "java/lang/String" "value" "[B"))⟩) (Or.inr ⟨_, (wk W (.laysFinal "java/lang/String" "java/lang/String" "coder" "B"))⟩) f1 f2 (t₁ := .array .byte) (t₂ := .byte) (by decide +kernel) (by decide +kernel) (by decide)
  have al := X8.warmed.alike.symm.trans X15.warmed.alike
  have n7 : T11.heap[s.heap.size]? = some N := by rw [q11]; exact n1.1
  exact ⟨T15, none, _, _, _, X15, by simp, rfl, by omega, (fun _ => rfl), ⟨rfl, _, N, bl15, ((Same.refl D _).set _ (by simp)).set _ (by simp), sl15, (Cell.slots_setSlot_ne _ ap).trans sl13, n1.keep al (p15.other hne (p13.other hne n7)), n2, by rw [al.findClass]; exact n3, n4, n5, fun y c h1 h2 => p15.other h1 (p13.other h1 (by rw [q11]; exact n6 y c h2)), by rw [p15.2.2, p13.2.2, q11]; exact z8⟩, fun fs hl => c16.trans (X15.returnOut hexec hret (hb hbytes d57) hl)⟩
end New4
namespace New1
def yN : MethodName := ⟨"java/lang/String", "<init>", "([C)V"⟩
abbrev yB : ByteArray := jdk_42_method_3_code
theorem d0 : decode yB 0 = .ok (.aload_n 0, 1) := by decide +kernel
theorem d1 : decode yB 1 = .ok (.aload_n 1, 1) := by decide +kernel
theorem d2 : decode yB 2 = .ok (.iconst 0, 1) := by decide +kernel
theorem d3 : decode yB 3 = .ok (.aload_n 1, 1) := by decide +kernel
theorem d4 : decode yB 4 = .ok (.arraylength, 1) := by decide +kernel
theorem d5 : decode yB 5 = .ok (.aconst_null, 1) := by decide +kernel
theorem d6 : decode yB 6 = .ok (.invokespecial 27, 3) := by decide +kernel
theorem d9 : decode yB 9 = .ok (.return_, 1) := by decide +kernel
def site : List Cond := [New4.tab] ++ initW "java/lang/String" 27 New4.yN
def tab : Cond := tabOf yN yB 2 none site
def P (a : Addr) (D : Cell) (fV fC : Field) (b : Addr) (A : Cell) (z : Int32) (args : Array Value) (s : State) : Prop := args = #[.ref a, .ref b] ∧ Blank "java/lang/String" a D s ∧ Found "java/lang/String" "value" "[B" fV s ∧ Found "java/lang/String" "coder" "B" fC s ∧ Ch b A s ∧ StaticIs s "java/lang/String" "COMPACT_STRINGS" "Z" (.int z) ∧ ¬ z = 0 ∧ 0 < A.slots.size ∧ A.slots.size ≤ 536870912 ∧ ∀ i, i < A.slots.size → ¬ 255 < cv A i
def E (a : Addr) (D : Cell) (fV fC : Field) (A : Cell) (r : Option Value) (s u : State) : Prop := Got a D fV fC A 0 A.slots.size r s u
/-- new String(chars), not empty, no char above 255: a Latin-1 String of their low bytes -/
theorem law (l : Launch) (a : Addr) (D : Cell) (fV fC : Field) (b : Addr) (A : Cell) (z : Int32) : Law l yN 2 1 3 52 yB 2 none site (P a D fV fC b A z) (E a D fV fC A) [⟨a, fC.slot⟩, ⟨a, fV.slot⟩] 1 A.slots.size := by
  refine Law.of_walk (plainFor_of_name (by decide +kernel)) (by decide +kernel) (by decide +kernel) (by decide) (fun _ _ h => by rw [h.1]; rfl) (fun _ U U' hal hh h => ⟨h.1, h.2.1.mv hal hh, h.2.2.1.al hal, h.2.2.2.1.al hal, h.2.2.2.2.1.mv hal hh, h.2.2.2.2.2.1.there hal hh, h.2.2.2.2.2.2⟩) (fun r U U' V V' h1 hal h2 h => Got.mv r U U' V V' h1 hal h2 h) ?_
  intro p e s m args below meth c s₁ X0 hexec hbytes hml hret hlk hnm hown hh0 W hP
  obtain ⟨rfl, hB, f1, f2, hA, s1, hz, l0, l2, hp⟩ := hP
  have c1 : Steps p.tables e below (s₁.setTop (entryFrame m #[.ref a, .ref b] 2)) (s₁.setTop (mkF m 0 #[.val (.ref a), .val (.ref b)] [])) := entry rfl
  have c2 : Steps p.tables e below (s₁.setTop (entryFrame m #[.ref a, .ref b] 2)) (s₁.setTop (mkF m 6 #[.val (.ref a), .val (.ref b)] [.null, .int (Int32.ofNat A.slots.size), .int 0, .ref b, .ref a])) := c1.trans (by
    refine XS.aloadN X0.here hexec rfl (hb hbytes d0) rfl rfl ?_
    refine XS.aloadN X0.here hexec rfl (hb hbytes d1) rfl rfl ?_
    refine iconstV X0.here hexec rfl 0 (hb hbytes d2) (by decide) ?_
    refine XS.aloadN X0.here hexec rfl (hb hbytes d3) rfl rfl ?_
    refine X0.alen hexec (hA.1.mv X0.warmed.alike hh0) rfl rfl (hb hbytes d4) ?_
    refine XS.aconstNull X0.here hexec rfl (hb hbytes d5) ?_
    exact Steps.refl _)
  obtain ⟨v3, T3, X3, E3, g3⟩ := X0.callN hexec (New4.law l a D fV fC b A z 0 A.slots.size) rfl hown (wks W (initW "java/lang/String" 27 New4.yN)) (W New4.tab (by simp only [site, List.mem_cons, List.mem_append, true_or, or_true])) (W := 0) (Nat.le_of_ble_eq_true rfl) (Nat.le_of_ble_eq_true rfl) (Nat.le_refl _) (by show 0 + A.slots.size ≤ A.slots.size; omega) (g := (mkF m 6 #[.val (.ref a), .val (.ref b)] [.null, .int (Int32.ofNat A.slots.size), .int (Int32.ofNat 0), .ref b, .ref a])) rfl (by rw [hml]; rfl) c2 (argsL := [.ref b, .int (Int32.ofNat 0), .int (Int32.ofNat A.slots.size), .null]) (rest := []) rfl rfl (by show 2 * 0 + 0 ≤ _; decide) (hb hbytes d6) (⟨rfl, hB.mv X0.warmed.alike hh0, f1.al X0.warmed.alike, f2.al X0.warmed.alike, hA.mv X0.warmed.alike hh0, s1.there X0.warmed.alike hh0, hz, l0, by omega, l2, fun i hi => by rw [Nat.zero_add]; exact hp i hi⟩)
  have e0 := Got.mv _ s₁ s _ _ hh0.symm (Vm.Alike.refl _) rfl E3
  obtain rfl := e0.1
  have c4 : Steps p.tables e below (s₁.setTop (entryFrame m #[.ref a, .ref b] 2)) (T3.setTop (mkF m 9 #[.val (.ref a), .val (.ref b)] [])) := g3
  exact ⟨T3, none, _, _, _, X3, by simp, rfl, by omega, (fun _ => rfl), e0, fun fs hl => c4.trans (X3.returnOut hexec hret (hb hbytes d9) hl)⟩
theorem pays {l : Launch} {R : Room} {p : Program} {e : Env} {below : List Frame} {s : State} {sargs : Array Value} {len W : Nat} (a : Addr) (D : Cell) (fV fC : Field) (b : Addr) (A : Cell) (z : Int32) (htab : tab.before sargs s = true) (hfr : 4 ≤ R.frames) (hlo : W + 65 ≤ R.locals) :
    Back l R p e below s sargs yN len W (fun A₁ a₁ => A₁.cells + 1 ≤ R.cells ∧ A₁.slots + A.slots.size ≤ R.slots ∧ P a D fV fC b A z a₁ A₁.U) (fun A₁ _ v₁ B₁ => E a D fV fC A v₁ A₁.U B₁.U ∧ B₁.locs = A₁.locs ++ [⟨a, fC.slot⟩, ⟨a, fV.slot⟩] ∧ B₁.cells = A₁.cells + 1 ∧ B₁.slots = A₁.slots + A.slots.size) :=
  (law l a D fV fC b A z).pays htab hfr (by omega)
end New1
end StrChars
namespace StrChars.Road
open Jvm Sem ClassFile Op Lib Jvm.Stand Jvm.Free Jvm.Free.XT
open Jvm.Lib.Cold (StaticIs)
abbrev ST : String := "java/lang/String"
/-- every table word that New1's law asks, flat -/
abbrev words : List Jvm.Cond := [.code New1.yN New1.yB 2 none, .initialized ST, .methodLink ST 27 New4.yN, .instanceMethod New4.yN,
  .code New4.yN New4.yB 6 none, .fieldLink ST 38 ST "COMPACT_STRINGS" "Z", .laysFinal ST ST "value" "[B", .fieldLink ST 9 ST "value" "[B", .laysFinal ST ST "coder" "B", .fieldLink ST 15 ST "coder" "B",
  .methodLink ST 1 Lib.objectInit, .instanceMethod Lib.objectInit, .code Lib.objectInit ⟨#[0xb1]⟩ 1 none, .methodLink ST 177 Cmp3.yN, .static Cmp3.yN, .methodLink ST 47 CodL.yN, .static CodL.yN,
  .code Cmp3.yN Cmp3.yB 6 (some (.array .byte)), .initialized U16, .arrayClass .byte, .methodLink U16 115 Cmp5.yN, .static Cmp5.yN, .code Cmp5.yN Cmp5.yB 7 (some .int), .code CodL.yN CodL.yB 2 (some .byte)]
theorem tab_of {a : Array Value} {s : State} (h : ∀ w ∈ words, w.before a s = true) : New1.tab.before a s = true := by
  have h5 : Cmp5.tab.before a s = true := unparts (wk h (.code Cmp5.yN Cmp5.yB 7 (some .int))) (wks h (.initialized Cmp5.yN.cls :: Cmp5.site))
  have hc : CodL.tab.before a s = true := unparts (wk h (.code CodL.yN CodL.yB 2 (some .byte))) (wks h (.initialized CodL.yN.cls :: CodL.site))
  have q5 : ∀ w ∈ Cmp5.tab :: words, w.before a s = true := fun w hw => (List.mem_cons.mp hw).elim (fun e => e ▸ h5) (h w)
  have h3 : Cmp3.tab.before a s = true := unparts (wk q5 (.code Cmp3.yN Cmp3.yB 6 (some (.array .byte)))) (wks q5 (.initialized Cmp3.yN.cls :: Cmp3.site))
  have q3 : ∀ w ∈ Cmp3.tab :: CodL.tab :: words, w.before a s = true := fun w hw => (List.mem_cons.mp hw).elim (fun e => e ▸ h3) fun hw => (List.mem_cons.mp hw).elim (fun e => e ▸ hc) (h w)
  have h4 : New4.tab.before a s = true := unparts (wk q3 (.code New4.yN New4.yB 6 none)) (wks q3 (.initialized New4.yN.cls :: New4.site))
  have q4 : ∀ w ∈ New4.tab :: words, w.before a s = true := fun w hw => (List.mem_cons.mp hw).elim (fun e => e ▸ h4) (h w)
  exact unparts (wk q4 (.code New1.yN New1.yB 2 none)) (wks q4 (.initialized New1.yN.cls :: New1.site))
/-- the words ride from the start Z to the walk's own state -/
theorem moved {Z s : State} {a0 args : Array Value} (hZ : Z.Warmed39 s.vm) (hw : ∀ d ∈ words, d.before a0 Z = true) : ∀ d ∈ words, d.before args s = true := fun d hd => by
  have q := hw d hd
  have t : ∀ d ∈ words, d = .arrayClass .byte ∨ (d.onTables && d.keepsFace) = true := by decide +kernel
  rcases t d hd with rfl | t
  · exact RoadKit.mvA hZ q
  · exact RoadKit.mv hZ q t
/-- WHAT COMES BACK, over the tables of the start Z: h the heap at the call, h' behind it -/
def Q (Z : State) (x : Addr) (A : Cell) (h : Heap) (v : Option Value) (h' : Heap) (L : List Loc) : Prop := v = none ∧ (∀ y ∈ L, y.base = x) ∧ RoadKit.Keep h h' [x] ∧ h'.size = h.size + 1 ∧ RoadKit.Exa Z h' x ST ∧ RoadKit.Fld Z h' x ST "value" "[B" (.ref h.size) ∧ RoadKit.Fld Z h' x ST "coder" "B" (.int 0) ∧
  (∃ V : Cell, RoadKit.Arr Z h' h.size V .byte ∧ V.vm = .none ∧ Z.vm.findClass "[B" = some V.cls ∧ V.slots.size = A.slots.size ∧ ∀ j, j < A.slots.size → V.slots[j]? = some (.int (lo8 (cv A j)))) ∧
  ∀ (O n d : String) (w : Value), RoadKit.Fld Z h x O n d w → RoadKit.slotOf Z O n d ≠ RoadKit.slotOf Z ST "value" "[B" → RoadKit.slotOf Z O n d ≠ RoadKit.slotOf Z ST "coder" "B" → RoadKit.Fld Z h' x O n d w
/-- **new String(chars) AT A CALL, IN THE ROAD'S FORM**: for specialBack behind newO: x the fresh String, b the char[] with the cell A -/
theorem back {p : Program} {l : Launch} {e : Env} {R : Room} {s : State} {args : Array Value} {below : List Frame} {len W : Nat} {Z : State} {a0 : Array Value} {h : Heap} (hZ : Z.Warmed39 s.vm) (hw : ∀ d ∈ words, d.before a0 Z = true) {kI : Nat} (wi : (Jvm.Cond.instantiable ST kI).before a0 Z = true)
    {x b : Addr} {A : Cell} {z : Int32} {v0 c0 : Value} (E : RoadKit.Exa Z h x ST) (V : RoadKit.Fld Z h x ST "value" "[B" v0) (C : RoadKit.Fld Z h x ST "coder" "B" c0) (K : RoadKit.Arr Z h b A .char) (hty : Typed .char A) (S : RoadKit.Sta Z h ST "COMPACT_STRINGS" "Z" (.int z)) (hz : ¬ z = 0)
    (l0 : 0 < A.slots.size) (l2 : A.slots.size ≤ 536870912) (hp : ∀ i, i < A.slots.size → ¬ 255 < cv A i) (hfr : 4 ≤ R.frames) (hlo : W + 65 ≤ R.locals) :
    Back l R p e below s args New1.yN len W (fun P a => a = #[.ref x, .ref b] ∧ P.U.heap = h ∧ P.cells + 1 ≤ R.cells ∧ P.slots + A.slots.size ≤ R.slots)
      (fun P _ v B => ∃ L, Q Z x A h v B.U.heap L ∧ B.locs = P.locs ++ L ∧ B.cells = P.cells + 1 ∧ B.slots = P.slots + A.slots.size) := by
  intro m meth c P g ig mk a X hg hsize hdg hW hn hp'
  obtain ⟨rfl, rfl, r1, r2⟩ := hp'
  have al : Z.vm.Alike P.U.vm := hZ.alike.trans X.warmed.alike
  obtain ⟨D, cfV, kV, iV, fV, hD, gV, stV, knV, obV, asV, slV⟩ := id V
  obtain ⟨D', cfC, kC, iC, fC, hD', gC, stC, -, -, asC, slC⟩ := id C
  cases hD.symm.trans hD'
  obtain ⟨D2, kD, e1, e2, e3, e4, e5⟩ := id E
  cases hD.symm.trans e1
  obtain ⟨c2, k2, i1, i2, i3, -⟩ := Cond.instantiable_spec wi
  cases e2.symm.trans i1
  cases e3.symm.trans i2
  obtain ⟨kU, u1, u2⟩ := al.2.2 _ _ e3
  have hB : Blank ST x D P.U := ⟨hD, ⟨knV, fun q hq => by rw [hq] at obV; cases obV⟩, by rw [al.findClass]; exact e2, kU, u1, by rw [u2]; exact i3, by rw [u2]; exact e5 i3⟩
  have F1 : Found ST "value" "[B" fV P.U := ⟨SBG.found_only al ⟨cfV, kV, iV, gV⟩, stV⟩
  have F2 : Found ST "coder" "B" fC P.U := ⟨SBG.found_only al ⟨cfC, kC, iC, gC⟩, stC⟩
  have hA : Ch b A P.U := ⟨⟨K.1, State.isArrayOf_alike al K.2.1, K.2.2, by omega⟩, hty⟩
  have hS : StaticIs P.U ST "COMPACT_STRINGS" "Z" (.int z) := by
    obtain ⟨cfS, iS, kS, fS, st, cS, t1, t2, t3, t4, t5, t6, t7⟩ := S
    exact StaticIs.there (s := { Z with heap := P.U.heap }) ⟨cfS, iS, kS, fS, st, cS, t1, t2, t3, t4, t5, (fun q => by rw [q] at t6; cases t6), t7⟩ al rfl
  obtain ⟨v, B, X', ⟨⟨hv, E', V', q1, q2, q3, q4, q5, q6, q7, q8, q9, q10, q11⟩, hl, hc, hs⟩, st⟩ := New1.pays x D fV fC b A z (tab_of (moved hZ hw)) hfr hlo m meth c P g ig mk _ X hg hsize hdg hW hn ⟨r1, r2, rfl, hB, F1, F2, hA, hS, hz, l0, l2, hp⟩
  have al' : Z.vm.Alike B.U.vm := hZ.alike.trans X'.warmed.alike
  have hsz : E'.slots.size = D.slots.size := by
    obtain ⟨-, -, -, kB, w1, w2, w3⟩ := q1
    obtain ⟨kB', y1, y2⟩ := al'.2.2 _ _ e3
    rw [q2.2.1] at w1
    cases w1.symm.trans y1
    rw [w3, e5 i3, y2]
  refine ⟨v, B, X', ⟨_, ⟨hv, ?_, ⟨by omega, fun y cy hy hn' => q10 y cy (by simpa using hn') hy, fun y cy hy => ?_⟩, q11, ⟨E', _, q1.1, by rw [q2.2.1]; exact e2, by rw [q2.2.1]; exact e3, by rw [q2.1]; exact obV, fun _ => by rw [hsz]; exact e5 i3⟩,
    ⟨E', cfV, kV, iV, fV, q1.1, gV, stV, by rw [q2.1]; exact knV, by rw [q2.1]; exact obV, by rw [q2.2.1]; exact asV, q3⟩, ⟨E', cfC, kC, iC, fC, q1.1, gC, stC, by rw [q2.1]; exact knV, by rw [q2.1]; exact obV, by rw [q2.2.1]; exact asC, q4⟩,
    ⟨V', ⟨q5.1, State.isArrayOf_alike al'.symm q5.2.1, q5.2.2.1⟩, q6, by rw [← al'.findClass]; exact q7, q8, fun j hj => by have := q9 j hj; rwa [Nat.zero_add] at this⟩, fun O n d w F n1 n2 => ?_⟩, hl, hc, hs⟩, st⟩
  · intro y hy
    simp only [List.mem_cons, List.not_mem_nil, or_false] at hy
    rcases hy with rfl | rfl <;> rfl
  · by_cases q : y = x
    · subst q
      cases hD.symm.trans hy
      exact ⟨E', q1.1, q2.2.1, q2.1, hsz⟩
    · exact ⟨cy, q10 y cy q hy, rfl, rfl, rfl⟩
  · obtain ⟨D3, cf, k, i, f, g1, g2, g3, g4, g5, g6, g7⟩ := F
    cases hD.symm.trans g1
    simp only [RoadKit.slotOf, g2, gV, gC, Option.map_some, Option.getD_some] at n1 n2
    exact ⟨E', cf, k, i, f, q1.1, g2, g3, by rw [q2.1]; exact g4, by rw [q2.1]; exact g5, by rw [q2.2.1]; exact g6, by rw [q2.2.2 f.slot (by simp [n1, n2])]; exact g7⟩
end StrChars.Road
namespace StrChars.Road
open Jvm Sem ClassFile Op Lib Jvm.Stand Jvm.Free Jvm.Free.XT
/-- WHAT COMES BACK, the byte[] as a list of values -/
def QA (Z : State) (x : Addr) (zn : Int32) (cs : List Int32) (h : Heap) (v : Option Value) (h' : Heap) (L : List Loc) : Prop := v = none ∧ (∀ y ∈ L, y.base = x) ∧ RoadKit.Keep h h' [x] ∧ h'.size = h.size + 1 ∧ RoadKit.Exa Z h' x ST ∧ RoadKit.Fld Z h' x ST "value" "[B" (.ref h.size) ∧ RoadKit.Fld Z h' x ST "coder" "B" (.int 0) ∧
  (∃ kb, Z.vm.findClass "[B" = some kb ∧ RoadKit.Arv Z h' h.size kb .byte zn (cs.map fun c => .int (lo8 c)) (.int 0)) ∧
  ∀ (O n d : String) (w : Value), RoadKit.Fld Z h x O n d w → RoadKit.slotOf Z O n d ≠ RoadKit.slotOf Z ST "value" "[B" → RoadKit.slotOf Z O n d ≠ RoadKit.slotOf Z ST "coder" "B" → RoadKit.Fld Z h' x O n d w
/-- **new String(chars) AT A CALL, THE ARRAYS AS LISTS**: the char[] at b holds cs, not empty, no char above 255 -/
theorem backArv {p : Program} {l : Launch} {e : Env} {R : Room} {s : State} {args : Array Value} {below : List Frame} {len W : Nat} {Z : State} {a0 : Array Value} {h : Heap} (hZ : Z.Warmed39 s.vm) (hw : ∀ d ∈ words, d.before a0 Z = true) {kI : Nat} (wi : (Jvm.Cond.instantiable ST kI).before a0 Z = true)
    {x b : Addr} {k : ClassId} {zn z : Int32} {cs : List Int32} {dv v0 c0 : Value} (E : RoadKit.Exa Z h x ST) (V : RoadKit.Fld Z h x ST "value" "[B" v0) (C : RoadKit.Fld Z h x ST "coder" "B" c0) (K : RoadKit.Arv Z h b k .char zn (cs.map Value.int) dv) (S : RoadKit.Sta Z h ST "COMPACT_STRINGS" "Z" (.int z)) (hz : ¬ z = 0)
    (hlen : zn.toNatClampNeg = cs.length) (h0 : 0 < cs.length) (hbig : cs.length ≤ 536870912) (hall : ∀ c ∈ cs, ¬ 255 < c) (hfr : 4 ≤ R.frames) (hlo : W + 65 ≤ R.locals) :
    Back l R p e below s args New1.yN len W (fun P a => a = #[.ref x, .ref b] ∧ P.U.heap = h ∧ P.cells + 1 ≤ R.cells ∧ P.slots + cs.length ≤ R.slots)
      (fun P _ v B => ∃ L, QA Z x zn cs h v B.U.heap L ∧ B.locs = P.locs ++ L ∧ B.cells = P.cells + 1 ∧ B.slots = P.slots + cs.length) := by
  obtain ⟨A, K1, K2, K3, K4, K5, K6⟩ := K
  have e : A.slots.size = cs.length := K3.trans hlen
  have hat : ∀ (i : Nat) (hi : i < cs.length), A.slots[i]? = some (.int cs[i]) := fun i hi => by rw [K5 i (by omega)]; simp [List.getD_eq_getElem?_getD, hi]
  have hcv : ∀ (i : Nat) (hi : i < cs.length), cv A i = cs[i] := fun i hi => by unfold cv; rw [hat i hi]
  have hty : Typed .char A := fun i v hv => by
    have hi : i < A.slots.size := (Array.getElem?_eq_some_iff.mp hv).1
    have q := K5 i hi
    rw [hv] at q
    rw [Option.some.inj q]
    exact K6 i hi
  refine Back.mono (back hZ hw wi E V C K1 hty S hz (by omega) (by omega) (fun i hi => by rw [hcv i (by omega)]; exact hall _ (List.getElem_mem _)) hfr hlo) (fun P a hp => ⟨hp.1, hp.2.1, hp.2.2.1, by rw [e]; exact hp.2.2.2⟩) (fun P a v B hp hq => ?_)
  obtain ⟨L, ⟨q1, q2, q3, q4, q5, q6, q7, ⟨V', v1, v2, v3, v4, v5⟩, q9⟩, hl, hc, hs⟩ := hq
  refine ⟨L, ⟨q1, q2, q3, q4, q5, q6, q7, ⟨V'.cls, v3, V', v1, rfl, by rw [v4, e, hlen], K4, fun i hi => ?_, fun i hi => ?_⟩, q9⟩, hl, hc, by rw [hs, e]⟩
  · have hi' : i < cs.length := by omega
    rw [v5 i (by omega), hcv i hi']; simp [List.getD_eq_getElem?_getD, hi']
  · have hi' : i < cs.length := by omega
    simp only [List.getD_eq_getElem?_getD, List.getElem?_map, List.getElem?_eq_getElem hi', Option.map_some, Option.getD_some]
    exact fits_lo8 _
end StrChars.Road
namespace StrChars.Road
open Jvm Sem ClassFile Op Lib Jvm.Stand Jvm.Free Jvm.Free.XT
/-- WHAT COMES BACK, in the writer's own shape -/
def QV (Z : State) (x : Addr) (N : Int32) (bs : List Int32) (h : Heap) (n0 : Nat) (v : Option Value) (h' : Heap) (L : List Loc) : Prop := v = none ∧ RoadKit.Fr n0 L ∧ RoadKit.Keep h h' [x] ∧ RoadKit.Exa Z h' x ST ∧ RoadKit.Fld Z h' x ST "coder" "B" (.int 0) ∧
  ∃ (t : Addr) (kb : ClassId), n0 ≤ t ∧ h.size ≤ t ∧ ¬ t = x ∧ RoadKit.Fld Z h' x ST "value" "[B" (.ref t) ∧ RoadKit.Arv Z h' t kb .byte N (bs.map Value.int) (.int 0)
/-- **new String(chars) AT A CALL, FOR THE WRITER**: a char[] of n known ints, each 0 to 255 -/
theorem backV {p : Program} {l : Launch} {e : Env} {R : Room} {s : State} {args : Array Value} {below : List Frame} {len W : Nat} {Z : State} {a0 : Array Value} {h : Heap} (hZ : Z.Warmed39 s.vm) (hw : ∀ d ∈ words, d.before a0 Z = true) {kI : Nat} (wi : (Jvm.Cond.instantiable ST kI).before a0 Z = true)
    {x b : Addr} {kC : ClassId} {cs bs : List Int32} {d v0 c0 : Value} {z N : Int32} {n n0 : Nat} (hx0 : n0 ≤ x) (hh0 : n0 ≤ h.size) (E : RoadKit.Exa Z h x ST) (V : RoadKit.Fld Z h x ST "value" "[B" v0) (C : RoadKit.Fld Z h x ST "coder" "B" c0) (K : RoadKit.Arv Z h b kC .char N (cs.map Value.int) d) (S : RoadKit.Sta Z h ST "COMPACT_STRINGS" "Z" (.int z)) (hz : ¬ z = 0)
    (hn : cs.length = n) (hN : N = Int32.ofNat n) (l0 : 0 < n) (l2 : n ≤ 4000) (hp : ∀ c ∈ cs, ¬ c < 0 ∧ ¬ (255 : Int32) < c) (hb : bs = cs.map (fun c => c.toInt8.toInt32)) (hfr : 4 ≤ R.frames) (hlo : W + 65 ≤ R.locals) :
    Back l R p e below s args (⟨"java/lang/String", "<init>", "([C)V"⟩ : MethodName) len W (fun P a => a = #[.ref x, .ref b] ∧ P.U.heap = h ∧ P.cells + 1 ≤ R.cells ∧ P.slots + n ≤ R.slots)
      (fun P _ v B => ∃ L, QV Z x N bs h n0 v B.U.heap L ∧ B.locs = P.locs ++ L ∧ B.cells = P.cells + 1 ∧ B.slots = P.slots + n) := by
  subst hn hN hb
  refine Back.mono (backArv hZ hw wi E V C K S hz (n32 (by omega)) l0 (by omega) (fun c hc => (hp c hc).2) hfr hlo) (fun P a hp => hp) (fun P a v B hp hq => ?_)
  obtain ⟨L, ⟨q1, q2, q3, q4, q5, q6, q7, ⟨kb, v1, v2⟩, q9⟩, hl, hc, hs⟩ := hq
  exact ⟨L, ⟨q1, fun y hy => by rw [q2 y hy]; exact hx0, q3, q5, q7, h.size, kb, hh0, Nat.le_refl _, Nat.ne_of_gt E.lt, q6, by rw [List.map_map]; exact v2⟩, hl, hc, hs⟩
end StrChars.Road
end Jvm.Pilot.@@N@@
namespace Jvm.Pilot.@@N@@
open Jvm Jvm.ClassFile Sem Op Lib Jvm.Free Jvm.Stand Jvm.LawKit Jvm.RoadKit Bundle Jvm.Pilot.@@N@@.Jvm.D
section Own
variable {p : Program} {l : Launch} {e : Env} {R : Room} {s : State} {m : MethodId} {args : Array Value} {below : List Frame} {meth : Method} {c : Code} {T : State} {locs : List Loc} {cells slots : Nat} {Z : State} {h h' h2 : Heap}
theorem own_cR (a : Addr) : (Value.ref a).category = 1 := rfl
theorem own_cI (x : Int32) : (Value.int x).category = 1 := rfl
theorem own_cN : Value.null.category = 1 := rfl
theorem own_cJ (x : Int64) : (Value.long x).category = 2 := rfl
/-- from U the walk comes to its end, where P holds -/
def Ends (tb : Tables) (e : Env) (below : List Frame) (P : Outcome → State → Prop) (U : State) : Prop := ∃ s₂ o, Steps tb e below U s₂ ∧ s₂.status = .running ∧ Ended s₂ below o ∧ P o s₂
theorem Ends.step {tb : Tables} {P : Outcome → State → Prop} {U U' : State} (k : ∀ t, Steps tb e below U' t → Steps tb e below U t) (h : Ends tb e below P U') : Ends tb e below P U := by
  obtain ⟨t, o, a, r⟩ := h; exact ⟨t, o, k t a, r⟩
theorem Ends.go {tb : Tables} {P : Outcome → State → Prop} {U U' : State} (k : Steps tb e below U U') (h : Ends tb e below P U') : Ends tb e below P U := Ends.step (fun _ q => k.trans q) h
theorem own_mono (X : Stand p l e R s m args below meth c T locs cells slots) {cells' slots' : Nat} (h1 : cells ≤ cells') (h2 : slots ≤ slots') : Stand p l e R s m args below meth c T locs cells' slots' := { X with same := X.same.mono h1 h2 }
theorem own_reX (X : Stand p l e R s m args below meth c T locs cells slots) {cells' slots' : Nat} (h1 : cells = cells') (h2 : slots = slots') : Stand p l e R s m args below meth c T locs cells' slots' := h1 ▸ h2 ▸ X
theorem own_frApp {n0 : Nat} {L L1 L2 : List Loc} (N : Fr n0 L1) (N' : Fr n0 L2) (e : L = L1 ++ L2) : Fr n0 L := e ▸ N.app N'
theorem own_end {Q : Option Value → Heap → List Loc → Prop} {K N : Nat} {v : Option Value} {g : JFrame} (X : Stand p l e R s m args below meth c T locs cells slots) (hlk : meth.locks = false) (hv : meth.sig.returnType = none → v = none)
    (st : ∀ fs : List Frame, (∀ (f : JFrame) (acts : List Action), f.method = m → f.locked = none → f.entered = [] → (doReturn e (T.setTop f) acts v).1 = T.setFrames fs) → Steps p.tables e below (T.setTop g) (T.setFrames fs))
    (eT : T.heap = h) (hQ : Q v h locs) (hk : cells ≤ K) (hn : slots ≤ N) : Ends p.tables e below (fun o U => ∃ v L, o = .returned v ∧ Q v U.heap L ∧ FrameEnd s o U L K N) (T.setTop g) := by
  obtain ⟨fs, hr, hrun, hended, hW, hsame⟩ := X.leave (v := v) hv hlk
  refine ⟨_, _, st fs hr, hrun, hended, v, locs, rfl, ?_, ⟨_, rfl⟩, hW, hsame.mono hk hn⟩
  show Q v T.heap locs
  rw [eT]; exact hQ
theorem own_finV {Q : Option Value → Heap → List Loc → Prop} {K N : Nat} (X : Stand p l e R s m args below meth c T locs cells slots) (hx : p.tables.exec = Jvm.exec) (hlk : meth.locks = false) (hret : meth.sig.returnType = none) {pc : Nat} {Ls : Array Slot} (hd : decode c.code pc = .ok (.return_, 1)) (eT : T.heap = h) (hQ : Q none h locs) (hk : cells ≤ K) (hn : slots ≤ N) :
    Ends p.tables e below (fun o U => ∃ v L, o = .returned v ∧ Q v U.heap L ∧ FrameEnd s o U L K N) (T.setTop (mkF m pc Ls [])) := own_end X hlk (fun _ => rfl) (fun _ hr => X.returnOut hx hret hd hr) eT hQ hk hn
theorem own_finR {Q : Option Value → Heap → List Loc → Prop} {K N : Nat} (X : Stand p l e R s m args below meth c T locs cells slots) (hx : p.tables.exec = Jvm.exec) (hlk : meth.locks = false) {t : FieldType} (hret : meth.sig.returnType = some t) (ht : t.isReference = true) {w : Value} (hw : w.isRef = true) {pc : Nat} {Ls : Array Slot} {rest : List Value} (hd : decode c.code pc = .ok (.areturn, 1)) (eT : T.heap = h) (hQ : Q (some w) h locs) (hk : cells ≤ K) (hn : slots ≤ N) :
    Ends p.tables e below (fun o U => ∃ v L, o = .returned v ∧ Q v U.heap L ∧ FrameEnd s o U L K N) (T.setTop (mkF m pc Ls (w :: rest))) :=
  own_end X hlk (fun q => by rw [hret] at q; cases q) (fun _ hr => retOut X hx hret (by rcases ref_cases hw with rfl | ⟨a, rfl⟩ <;> cases t <;> first | rfl | (exact absurd ht (by decide))) (Or.inr (Or.inr (Or.inr (Or.inr ⟨rfl, ht, hw⟩)))) hd hr) eT hQ hk hn
theorem own_finJ {Q : Option Value → Heap → List Loc → Prop} {K N : Nat} (X : Stand p l e R s m args below meth c T locs cells slots) (hx : p.tables.exec = Jvm.exec) (hlk : meth.locks = false) (hret : meth.sig.returnType = some .long) {w : Int64} {pc : Nat} {Ls : Array Slot} {rest : List Value} (hd : decode c.code pc = .ok (.lreturn, 1)) (eT : T.heap = h) (hQ : Q (some (.long w)) h locs) (hk : cells ≤ K) (hn : slots ≤ N) :
    Ends p.tables e below (fun o U => ∃ v L, o = .returned v ∧ Q v U.heap L ∧ FrameEnd s o U L K N) (T.setTop (mkF m pc Ls (.long w :: rest))) :=
  own_end X hlk (fun q => by rw [hret] at q; cases q) (fun _ hr => retOut X hx hret rfl (Or.inr (Or.inl ⟨rfl, rfl, w, rfl⟩)) hd hr) eT hQ hk hn
theorem own_finI {Q : Option Value → Heap → List Loc → Prop} {K N : Nat} (X : Stand p l e R s m args below meth c T locs cells slots) (hx : p.tables.exec = Jvm.exec) (hlk : meth.locks = false) {t : FieldType} (hret : meth.sig.returnType = some t) (ht : t = .int ∨ t = .boolean ∨ t = .byte ∨ t = .char ∨ t = .short) {w : Int32} (hnr : narrow t (.int w) = .int w) {pc : Nat} {Ls : Array Slot} {rest : List Value} (hd : decode c.code pc = .ok (.ireturn, 1)) (eT : T.heap = h) (hQ : Q (some (.int w)) h locs) (hk : cells ≤ K) (hn : slots ≤ N) :
    Ends p.tables e below (fun o U => ∃ v L, o = .returned v ∧ Q v U.heap L ∧ FrameEnd s o U L K N) (T.setTop (mkF m pc Ls (.int w :: rest))) :=
  own_end X hlk (fun q => by rw [hret] at q; cases q) (fun _ hr => retOut X hx hret hnr (Or.inl ⟨rfl, ht, w, rfl⟩) hd hr) eT hQ hk hn
theorem own_narrow_ref {v : Value} {t : FieldType} (h : v.isRef = true) (ht : t.isReference = true) : narrow t v = v := by
  rcases ref_cases h with rfl | ⟨a, rfl⟩ <;> cases t <;> first | rfl | (exact absurd ht (by decide))
theorem own_fits_ref {v : Value} {t : FieldType} (h : v.isRef = true) (ht : t.isReference = true) : fits t v = true := by
  rcases ref_cases h with rfl | ⟨a, rfl⟩ <;> cases t <;> first | rfl | (exact absurd ht (by decide))
theorem own_narZ {z : Int32} (h : z = (0 : Int32) ∨ z = (1 : Int32)) : narrow .boolean (.int z) = .int z := by rcases h with rfl | rfl <;> rfl
theorem own_and255 (x : Int32) : ¬ nar .char ((x &&& (255 : Int32)).toUInt32.toUInt16.toUInt32.toInt32) < 0 ∧ ¬ (255 : Int32) < nar .char ((x &&& (255 : Int32)).toUInt32.toUInt16.toUInt32.toInt32) := by
  have t : ∀ k : Fin 256, ¬ nar .char ((Int32.ofNat k.val).toUInt32.toUInt16.toUInt32.toInt32) < 0 ∧ ¬ (255 : Int32) < nar .char ((Int32.ofNat k.val).toUInt32.toUInt16.toUInt32.toInt32) := by decide +kernel
  have h : (x &&& 255).toBitVec.toNat < 256 := by
    simp only [Int32.toBitVec_and, BitVec.toNat_and]
    exact Nat.lt_succ_of_le Nat.and_le_right
  have e : (x &&& 255) = Int32.ofNat (x &&& 255).toBitVec.toNat := by
    apply Int32.toBitVec_inj.mp
    show _ = BitVec.ofNat 32 _
    rw [BitVec.ofNat_toNat]; simp
  rw [e]
  exact t ⟨_, h⟩
theorem own_c255 (x : Int32) : ¬ ((x &&& (255 : Int32)).toUInt32.toUInt16.toUInt32.toInt32) < 0 ∧ ¬ (255 : Int32) < ((x &&& (255 : Int32)).toUInt32.toUInt16.toUInt32.toInt32) := by
  have t : ∀ k : Fin 256, ¬ ((Int32.ofNat k.val).toUInt32.toUInt16.toUInt32.toInt32) < 0 ∧ ¬ (255 : Int32) < ((Int32.ofNat k.val).toUInt32.toUInt16.toUInt32.toInt32) := by decide +kernel
  have h : (x &&& 255).toBitVec.toNat < 256 := by
    simp only [Int32.toBitVec_and, BitVec.toNat_and]
    exact Nat.lt_succ_of_le Nat.and_le_right
  have e : (x &&& 255) = Int32.ofNat (x &&& 255).toBitVec.toNat := by
    apply Int32.toBitVec_inj.mp
    show _ = BitVec.ofNat 32 _
    rw [BitVec.ofNat_toNat]; simp
  rw [e]
  exact t ⟨_, h⟩
theorem own_up (cs : List Int32) (h : ∀ c ∈ cs, ¬ c < 0 ∧ ¬ (255 : Int32) < c) : ∀ c ∈ cs, ¬ c < 0 ∧ ¬ (65535 : Int32) < c := fun c hc => ⟨(h c hc).1, fun q => (h c hc).2 (by rw [Int32.lt_iff_toInt_lt] at q ⊢; have e1 : (65535 : Int32).toInt = 65535 := rfl; have e2 : (255 : Int32).toInt = 255 := rfl; omega)⟩
/-- a reference of class C, or null -/
def Nul (Z : State) (h : Heap) (v : Value) (C : String) : Prop := v = .null ∨ ∃ a, v = .ref a ∧ Exa Z h a C
theorem Nul.keep {v : Value} {C : String} {ws : List Addr} (F : Nul Z h v C) (K : Keep h h' ws) : Nul Z h' v C := F.imp id fun ⟨a, e, E⟩ => ⟨a, e, E.keep K⟩
theorem Nul.ext {v : Value} {C : String} (F : Nul Z h v C) (E : Ext h h') : Nul Z h' v C := F.imp id fun ⟨a, e, A⟩ => ⟨a, e, A.ext E⟩
theorem Nul.wr {v w : Value} {C : String} {a : Addr} {sl : Nat} (F : Nul Z h v C) (W : Wr h h' a sl w) : Nul Z h' v C := F.imp id fun ⟨a, e, A⟩ => ⟨a, e, A.wr W⟩
theorem Nul.ref {v : Value} {C : String} (F : Nul Z h v C) : v.isRef = true := by rcases F with rfl | ⟨a, rfl, -⟩ <;> rfl
theorem own_castN {a0 : Array Value} (X : Stand p l e R s m args below meth c T locs cells slots) (hx : p.tables.exec = Jvm.exec) (hZ : Z.Warmed39 s.vm) {own K : String} {index : Nat} (hown : s.vm.findClass own = some m.cls) (w : (Jvm.Cond.classLink own index K).before a0 Z = true) (eT : T.heap = h) {v : Value} (F : Nul Z h v K)
    {g : JFrame} (hg : g.method = m) {rest : List Value} (hs : g.stack = v :: rest) (hd : decode c.code g.pc = .ok (.checkcast index, 3)) : ∃ T', Stand p l e R s m args below meth c T' locs cells slots ∧ T'.heap = h ∧ ∀ target, Steps p.tables e below (T'.setTop { g with pc := g.pc + 3 }) target → Steps p.tables e below (T.setTop g) target := by
  rcases F with rfl | ⟨a, rfl, E⟩
  · exact ⟨T, X, eT, X.checkcastNull hx hg hs hd⟩
  · exact castY X hx hZ hown w eT (Ins.self E) hg hs hd
/-- an object of class C where k is 0, of class D elsewhere -/
def Kind (Z : State) (h : Heap) (a : Addr) (k : Int32) (C D : String) : Prop := (k = (0 : Int32) ∧ Exa Z h a C) ∨ (¬ k = (0 : Int32) ∧ Exa Z h a D)
theorem Kind.keep {a : Addr} {k : Int32} {C D : String} {ws : List Addr} (F : Kind Z h a k C D) (K : Keep h h' ws) : Kind Z h' a k C D := F.imp (fun q => ⟨q.1, q.2.keep K⟩) (fun q => ⟨q.1, q.2.keep K⟩)
theorem Kind.ext {a : Addr} {k : Int32} {C D : String} (F : Kind Z h a k C D) (E : Ext h h') : Kind Z h' a k C D := F.imp (fun q => ⟨q.1, q.2.ext E⟩) (fun q => ⟨q.1, q.2.ext E⟩)
theorem Kind.wr {a b : Addr} {k : Int32} {C D : String} {sl : Nat} {w : Value} (F : Kind Z h a k C D) (W : Wr h h' b sl w) : Kind Z h' a k C D := F.imp (fun q => ⟨q.1, q.2.wr W⟩) (fun q => ⟨q.1, q.2.wr W⟩)
theorem Kind.lt {a : Addr} {k : Int32} {C D : String} (F : Kind Z h a k C D) : a < h.size := F.elim (fun q => q.2.lt) (fun q => q.2.lt)
theorem Kind.ins {a : Addr} {k : Int32} {C D K : String} {a0 : Array Value} (F : Kind Z h a k C D) (w1 : (Jvm.Cond.castable C K).before a0 Z = true) (w2 : (Jvm.Cond.castable D K).before a0 Z = true) : Ins Z h a K true := F.elim (fun q => Ins.of_exa q.2 w1) (fun q => Ins.of_exa q.2 w2)
theorem insKeep {a : Addr} {C : String} {ws : List Addr} (K : Keep h h' ws) (F : Ins Z h a C true) : Ins Z h' a C true := by
  obtain ⟨cell, cT, h1, h2, h3⟩ := F
  obtain ⟨c', q1, q2, q3, -⟩ := K.2.2 _ _ h1
  exact ⟨c', cT, q1, h2, by rw [q2, q3]; exact h3⟩
theorem own_nsRoot {a0 : Array Value} {O K : String} {n : Nat} (w : (Jvm.Cond.noSuperclass O).before a0 Z = true) (wk : (Jvm.Cond.instantiable K n).before a0 Z = true) (hn : O ≠ K) : NS Z O K := by
  obtain ⟨c, k, h1, h2, h3, -, -⟩ := Cond.noSuperclass_spec w
  obtain ⟨t, _, g1, -⟩ := Cond.instantiable_spec wk
  have ne := ids_ne h1 g1 hn
  refine ⟨c, t, h1, g1, fun fuel => ?_⟩
  cases fuel with
  | zero => rfl
  | succ f => simp [Vm.isSubclassAux, ne, h2, h3]
theorem own_nsNo {a0 : Array Value} {C S K : String} {n : Nat} (w : (Jvm.Cond.superclass C S).before a0 Z = true) (wk : (Jvm.Cond.instantiable K n).before a0 Z = true) (ns : NS Z C K) (hn : C ≠ K) : ∃ c t, Z.vm.findClass C = some c ∧ Z.vm.findClass K = some t ∧ Z.vm.assignable c t = false := by
  obtain ⟨c, t, h0, g0, n3⟩ := ns
  obtain ⟨p, k, kp, h1, h2, h3, h4, h5, -, h7⟩ := Cond.superclass_spec h0 w
  obtain ⟨t', k', g1, g2, g3, g4, -⟩ := Cond.instantiable_spec wk
  cases g0.symm.trans g1
  have g7 : k'.isInterface = false := (Bool.or_eq_false_iff.mp g4).1
  have ne := ids_ne h0 g0 hn
  refine ⟨c, t, h0, g0, ?_⟩
  show Z.vm.assignableAux (255 + 1) c t = false
  simp [Vm.assignableAux, ne, h2, g2, h5, g3, g7, Vm.isSubclass, n3]
theorem own_alen (X : Stand p l e R s m args below meth c T locs cells slots) (hx : p.tables.exec = Jvm.exec) (hZ : Z.Warmed39 s.vm) (eT : T.heap = h) {a : Addr} {cl : Cell} {ty : FieldType} (A : Arr Z h a cl ty) {z : Int32} (hz : cl.slots.size.toInt32 = z) {g : JFrame} (hg : g.method = m) {rest : List Value} (hs : g.stack = .ref a :: rest) (hd : decode c.code g.pc = .ok (.arraylength, 1))
    {target : State} (k : Steps p.tables e below (T.setTop { g with pc := g.pc + 1, stack := .int z :: rest }) target) : Steps p.tables e below (T.setTop g) target := by
  subst hz
  exact X.arraylength hx (by rw [eT]; exact A.1) (State.isArrayOf_alike hZ.alike A.2.1) hg hs hd _ k
end Own
theorem own_hws {Z : State} {a0 : Array Value} (hw : ∀ d ∈ tables_1, d.before a0 Z = true) : ∀ d ∈ StrChars.Road.words, d.before a0 Z = true := fun d hd => hw d ((by decide +kernel : ∀ d ∈ StrChars.Road.words, d ∈ tables_1) d hd)
theorem d_jdk_43_method_3_code_0 : decode jdk_43_method_3_code 0 = .ok (.iload_n 0, 1) := by decide +kernel
theorem d_jdk_43_method_3_code_1 : decode jdk_43_method_3_code 1 = .ok (.sipush 255, 3) := by decide +kernel
theorem d_jdk_43_method_3_code_4 : decode jdk_43_method_3_code 4 = .ok (.if_icmp .gt 7, 3) := by decide +kernel
theorem d_jdk_43_method_3_code_7 : decode jdk_43_method_3_code 7 = .ok (.iconst 1, 1) := by decide +kernel
theorem d_jdk_43_method_3_code_8 : decode jdk_43_method_3_code 8 = .ok (.goto 4, 3) := by decide +kernel
theorem d_jdk_43_method_3_code_12 : decode jdk_43_method_3_code 12 = .ok (.ireturn, 1) := by decide +kernel
theorem pn_java_lang_StringLatin1 : plainName "java/lang/StringLatin1" = true := by first | (simp [plainName, overriddenIn]; done) | decide +kernel
theorem d_jdk_43_method_46_code_0 : decode jdk_43_method_46_code 0 = .ok (.iconst 1, 1) := by decide +kernel
theorem d_jdk_43_method_46_code_1 : decode jdk_43_method_46_code 1 = .ok (.newarray .byte, 2) := by decide +kernel
theorem d_jdk_43_method_46_code_3 : decode jdk_43_method_46_code 3 = .ok (.dup, 1) := by decide +kernel
theorem d_jdk_43_method_46_code_4 : decode jdk_43_method_46_code 4 = .ok (.iconst 0, 1) := by decide +kernel
theorem d_jdk_43_method_46_code_5 : decode jdk_43_method_46_code 5 = .ok (.iload_n 0, 1) := by decide +kernel
theorem d_jdk_43_method_46_code_6 : decode jdk_43_method_46_code 6 = .ok (.i2b, 1) := by decide +kernel
theorem d_jdk_43_method_46_code_7 : decode jdk_43_method_46_code 7 = .ok (.bastore, 1) := by decide +kernel
theorem d_jdk_43_method_46_code_8 : decode jdk_43_method_46_code 8 = .ok (.areturn, 1) := by decide +kernel
theorem d_jdk_42_method_151_code_0 : decode jdk_42_method_151_code 0 = .ok (.aload_n 0, 1) := by decide +kernel
theorem d_jdk_42_method_151_code_1 : decode jdk_42_method_151_code 1 = .ok (.invokespecial 1, 3) := by decide +kernel
theorem d_jdk_42_method_151_code_4 : decode jdk_42_method_151_code 4 = .ok (.aload_n 0, 1) := by decide +kernel
theorem d_jdk_42_method_151_code_5 : decode jdk_42_method_151_code 5 = .ok (.aload_n 1, 1) := by decide +kernel
theorem d_jdk_42_method_151_code_6 : decode jdk_42_method_151_code 6 = .ok (.putfield 9, 3) := by decide +kernel
theorem pf_0 : parseFieldDescriptor "[B" = some (.array .byte) := by decide +kernel
theorem d_jdk_42_method_151_code_9 : decode jdk_42_method_151_code 9 = .ok (.aload_n 0, 1) := by decide +kernel
theorem d_jdk_42_method_151_code_10 : decode jdk_42_method_151_code 10 = .ok (.iload_n 2, 1) := by decide +kernel
theorem d_jdk_42_method_151_code_11 : decode jdk_42_method_151_code 11 = .ok (.putfield 15, 3) := by decide +kernel
theorem pf_1 : parseFieldDescriptor "B" = some .byte := by decide +kernel
theorem sn_java_lang_String_coder__value {Z : State} {a0 : Array Value} (hw : ∀ d ∈ tables_1, d.before a0 Z = true) : Jvm.RoadKit.slotOf Z "java/lang/String" "coder" "B" ≠ Jvm.RoadKit.slotOf Z "java/lang/String" "value" "[B" := slot_ne (Or.inr (hw _ (List.mem_of_getElem? (i := 31) rfl))) (Or.inr (hw _ (List.mem_of_getElem? (i := 33) rfl))) (by decide) pf_1 pf_0
theorem d_jdk_42_method_151_code_14 : decode jdk_42_method_151_code 14 = .ok (.return_, 1) := by decide +kernel
theorem pn_java_lang_String : plainName "java/lang/String" = true := by first | (simp [plainName, overriddenIn]; done) | decide +kernel
theorem d_jdk_42_method_139_code_0 : decode jdk_42_method_139_code 0 = .ok (.getstatic 38, 3) := by decide +kernel
theorem d_jdk_42_method_139_code_3 : decode jdk_42_method_139_code 3 = .ok (.ifCond .eq 23, 3) := by decide +kernel
theorem d_jdk_42_method_139_code_6 : decode jdk_42_method_139_code 6 = .ok (.iload_n 0, 1) := by decide +kernel
theorem d_jdk_42_method_139_code_7 : decode jdk_42_method_139_code 7 = .ok (.invokestatic 1015, 3) := by decide +kernel
theorem pd_0 : parseMethodDescriptor "(C)Z" = some ⟨[.char], some .boolean⟩ := by decide +kernel
theorem d_jdk_42_method_139_code_10 : decode jdk_42_method_139_code 10 = .ok (.ifCond .eq 16, 3) := by decide +kernel
theorem d_jdk_42_method_139_code_13 : decode jdk_42_method_139_code 13 = .ok (.new 10, 3) := by decide +kernel
theorem d_jdk_42_method_139_code_16 : decode jdk_42_method_139_code 16 = .ok (.dup, 1) := by decide +kernel
theorem d_jdk_42_method_139_code_17 : decode jdk_42_method_139_code 17 = .ok (.iload_n 0, 1) := by decide +kernel
theorem d_jdk_42_method_139_code_18 : decode jdk_42_method_139_code 18 = .ok (.invokestatic 1018, 3) := by decide +kernel
theorem pd_1 : parseMethodDescriptor "(C)[B" = some ⟨[.char], some (.array .byte)⟩ := by decide +kernel
theorem d_jdk_42_method_139_code_21 : decode jdk_42_method_139_code 21 = .ok (.iconst 0, 1) := by decide +kernel
theorem d_jdk_42_method_139_code_22 : decode jdk_42_method_139_code 22 = .ok (.invokespecial 209, 3) := by decide +kernel
theorem pd_2 : parseMethodDescriptor "([BB)V" = some ⟨[(.array .byte), .byte], none⟩ := by decide +kernel
theorem d_jdk_42_method_139_code_25 : decode jdk_42_method_139_code 25 = .ok (.areturn, 1) := by decide +kernel
theorem d_jdk_42_method_66_code_0 : decode jdk_42_method_66_code 0 = .ok (.aload_n 0, 1) := by decide +kernel
theorem d_jdk_42_method_66_code_1 : decode jdk_42_method_66_code 1 = .ok (.aload_n 1, 1) := by decide +kernel
theorem d_jdk_42_method_66_code_2 : decode jdk_42_method_66_code 2 = .ok (.if_acmp .ne 5, 3) := by decide +kernel
theorem d_jdk_42_method_66_code_5 : decode jdk_42_method_66_code 5 = .ok (.iconst 1, 1) := by decide +kernel
theorem d_jdk_42_method_66_code_6 : decode jdk_42_method_66_code 6 = .ok (.ireturn, 1) := by decide +kernel
theorem d_jdk_32_method_2_code_0 : decode jdk_32_method_2_code 0 = .ok (.aload_n 0, 1) := by decide +kernel
theorem d_jdk_32_method_2_code_1 : decode jdk_32_method_2_code 1 = .ok (.invokespecial 7, 3) := by decide +kernel
theorem d_jdk_32_method_2_code_4 : decode jdk_32_method_2_code 4 = .ok (.aload_n 0, 1) := by decide +kernel
theorem d_jdk_32_method_2_code_5 : decode jdk_32_method_2_code 5 = .ok (.aload_n 1, 1) := by decide +kernel
theorem d_jdk_32_method_2_code_6 : decode jdk_32_method_2_code 6 = .ok (.putfield 13, 3) := by decide +kernel
theorem pf_2 : parseFieldDescriptor "Ljava/lang/Object;" = some (.object "java/lang/Object") := by decide +kernel
theorem d_jdk_32_method_2_code_9 : decode jdk_32_method_2_code 9 = .ok (.return_, 1) := by decide +kernel
theorem pn_java_util_Optional : plainName "java/util/Optional" = true := by first | (simp [plainName, overriddenIn]; done) | decide +kernel
theorem d_jdk_32_method_4_code_0 : decode jdk_32_method_4_code 0 = .ok (.aload_n 0, 1) := by decide +kernel
theorem d_jdk_32_method_4_code_1 : decode jdk_32_method_4_code 1 = .ok (.ifnonnull 9, 3) := by decide +kernel
theorem d_jdk_32_method_4_code_4 : decode jdk_32_method_4_code 4 = .ok (.getstatic 1, 3) := by decide +kernel
theorem d_jdk_32_method_4_code_7 : decode jdk_32_method_4_code 7 = .ok (.goto 11, 3) := by decide +kernel
theorem d_jdk_32_method_4_code_18 : decode jdk_32_method_4_code 18 = .ok (.areturn, 1) := by decide +kernel
theorem d_jdk_32_method_4_code_10 : decode jdk_32_method_4_code 10 = .ok (.new 2, 3) := by decide +kernel
theorem d_jdk_32_method_4_code_13 : decode jdk_32_method_4_code 13 = .ok (.dup, 1) := by decide +kernel
theorem d_jdk_32_method_4_code_14 : decode jdk_32_method_4_code 14 = .ok (.aload_n 0, 1) := by decide +kernel
theorem d_jdk_32_method_4_code_15 : decode jdk_32_method_4_code 15 = .ok (.invokespecial 23, 3) := by decide +kernel
theorem pd_3 : parseMethodDescriptor "(Ljava/lang/Object;)V" = some ⟨[(.object "java/lang/Object")], none⟩ := by decide +kernel
theorem d_jdk_32_method_15_code_0 : decode jdk_32_method_15_code 0 = .ok (.aload_n 0, 1) := by decide +kernel
theorem d_jdk_32_method_15_code_1 : decode jdk_32_method_15_code 1 = .ok (.getfield 13, 3) := by decide +kernel
theorem d_jdk_32_method_15_code_4 : decode jdk_32_method_15_code 4 = .ok (.ifnull 10, 3) := by decide +kernel
theorem d_jdk_32_method_15_code_14 : decode jdk_32_method_15_code 14 = .ok (.aload_n 1, 1) := by decide +kernel
theorem d_jdk_32_method_15_code_15 : decode jdk_32_method_15_code 15 = .ok (.areturn, 1) := by decide +kernel
theorem d_jdk_32_method_15_code_7 : decode jdk_32_method_15_code 7 = .ok (.aload_n 0, 1) := by decide +kernel
theorem d_jdk_32_method_15_code_8 : decode jdk_32_method_15_code 8 = .ok (.getfield 13, 3) := by decide +kernel
theorem d_jdk_32_method_15_code_11 : decode jdk_32_method_15_code 11 = .ok (.goto 4, 3) := by decide +kernel
theorem d_jdk_32_method_6_code_0 : decode jdk_32_method_6_code 0 = .ok (.aload_n 0, 1) := by decide +kernel
theorem d_jdk_32_method_6_code_1 : decode jdk_32_method_6_code 1 = .ok (.getfield 13, 3) := by decide +kernel
theorem d_jdk_32_method_6_code_4 : decode jdk_32_method_6_code 4 = .ok (.ifnull 7, 3) := by decide +kernel
theorem d_jdk_32_method_6_code_11 : decode jdk_32_method_6_code 11 = .ok (.iconst 0, 1) := by decide +kernel
theorem d_jdk_32_method_6_code_12 : decode jdk_32_method_6_code 12 = .ok (.ireturn, 1) := by decide +kernel
theorem d_jdk_32_method_6_code_7 : decode jdk_32_method_6_code 7 = .ok (.iconst 1, 1) := by decide +kernel
theorem d_jdk_32_method_6_code_8 : decode jdk_32_method_6_code 8 = .ok (.goto 4, 3) := by decide +kernel
theorem d_method_2_code_0 : decode method_2_code 0 = .ok (.iload_n 0, 1) := by decide +kernel
theorem d_method_2_code_1 : decode method_2_code 1 = .ok (.sipush 255, 3) := by decide +kernel
theorem d_method_2_code_4 : decode method_2_code 4 = .ok (.iand, 1) := by decide +kernel
theorem d_method_2_code_5 : decode method_2_code 5 = .ok (.i2c, 1) := by decide +kernel
theorem d_method_2_code_6 : decode method_2_code 6 = .ok (.istore_n 1, 1) := by decide +kernel
theorem d_method_2_code_7 : decode method_2_code 7 = .ok (.iload_n 0, 1) := by decide +kernel
theorem d_method_2_code_8 : decode method_2_code 8 = .ok (.bipush 8, 2) := by decide +kernel
theorem d_method_2_code_10 : decode method_2_code 10 = .ok (.iushr, 1) := by decide +kernel
theorem d_method_2_code_11 : decode method_2_code 11 = .ok (.sipush 255, 3) := by decide +kernel
theorem d_method_2_code_14 : decode method_2_code 14 = .ok (.iand, 1) := by decide +kernel
theorem d_method_2_code_15 : decode method_2_code 15 = .ok (.i2c, 1) := by decide +kernel
theorem d_method_2_code_16 : decode method_2_code 16 = .ok (.istore_n 2, 1) := by decide +kernel
theorem d_method_2_code_17 : decode method_2_code 17 = .ok (.iload_n 0, 1) := by decide +kernel
theorem d_method_2_code_18 : decode method_2_code 18 = .ok (.bipush 16, 2) := by decide +kernel
theorem d_method_2_code_20 : decode method_2_code 20 = .ok (.iushr, 1) := by decide +kernel
theorem d_method_2_code_21 : decode method_2_code 21 = .ok (.iconst 1, 1) := by decide +kernel
theorem d_method_2_code_22 : decode method_2_code 22 = .ok (.iand, 1) := by decide +kernel
theorem d_method_2_code_23 : decode method_2_code 23 = .ok (.ifCond .eq 8, 3) := by decide +kernel
theorem d_method_2_code_31 : decode method_2_code 31 = .ok (.iconst 2, 1) := by decide +kernel
theorem d_method_2_code_32 : decode method_2_code 32 = .ok (.newarray .char, 2) := by decide +kernel
theorem d_method_2_code_34 : decode method_2_code 34 = .ok (.astore_n 3, 1) := by decide +kernel
theorem d_method_2_code_35 : decode method_2_code 35 = .ok (.aload_n 3, 1) := by decide +kernel
theorem d_method_2_code_36 : decode method_2_code 36 = .ok (.iconst 0, 1) := by decide +kernel
theorem d_method_2_code_37 : decode method_2_code 37 = .ok (.iload_n 1, 1) := by decide +kernel
theorem d_method_2_code_38 : decode method_2_code 38 = .ok (.castore, 1) := by decide +kernel
theorem d_method_2_code_39 : decode method_2_code 39 = .ok (.aload_n 3, 1) := by decide +kernel
theorem d_method_2_code_40 : decode method_2_code 40 = .ok (.iconst 1, 1) := by decide +kernel
theorem d_method_2_code_41 : decode method_2_code 41 = .ok (.iload_n 2, 1) := by decide +kernel
theorem d_method_2_code_42 : decode method_2_code 42 = .ok (.castore, 1) := by decide +kernel
theorem d_method_2_code_43 : decode method_2_code 43 = .ok (.new 8, 3) := by decide +kernel
theorem d_method_2_code_46 : decode method_2_code 46 = .ok (.dup, 1) := by decide +kernel
theorem d_method_2_code_47 : decode method_2_code 47 = .ok (.aload_n 3, 1) := by decide +kernel
theorem d_method_2_code_48 : decode method_2_code 48 = .ok (.invokespecial 13, 3) := by decide +kernel
theorem pd_4 : parseMethodDescriptor "([C)V" = some ⟨[(.array .char)], none⟩ := by decide +kernel
theorem d_method_2_code_51 : decode method_2_code 51 = .ok (.areturn, 1) := by decide +kernel
theorem d_method_2_code_26 : decode method_2_code 26 = .ok (.iload_n 1, 1) := by decide +kernel
theorem d_method_2_code_27 : decode method_2_code 27 = .ok (.invokestatic 7, 3) := by decide +kernel
theorem pd_5 : parseMethodDescriptor "(C)Ljava/lang/String;" = some ⟨[.char], some (.object "java/lang/String")⟩ := by decide +kernel
theorem d_method_2_code_30 : decode method_2_code 30 = .ok (.areturn, 1) := by decide +kernel
theorem pn_com_example_operatory_operatory_fhir_AlternativeOfReferencePinLaw : plainName "com/example/operatory/operatory/fhir/AlternativeOfReferencePinLaw" = true := by first | (simp [plainName, overriddenIn]; done) | decide +kernel
theorem d_prog_5_method_1_code_0 : decode prog_5_method_1_code 0 = .ok (.aload_n 0, 1) := by decide +kernel
theorem d_prog_5_method_1_code_1 : decode prog_5_method_1_code 1 = .ok (.invokespecial 1, 3) := by decide +kernel
theorem d_prog_5_method_1_code_4 : decode prog_5_method_1_code 4 = .ok (.aload_n 0, 1) := by decide +kernel
theorem d_prog_5_method_1_code_5 : decode prog_5_method_1_code 5 = .ok (.aload_n 1, 1) := by decide +kernel
theorem d_prog_5_method_1_code_6 : decode prog_5_method_1_code 6 = .ok (.putfield 7, 3) := by decide +kernel
theorem pf_3 : parseFieldDescriptor "Ljava/lang/String;" = some (.object "java/lang/String") := by decide +kernel
theorem d_prog_5_method_1_code_9 : decode prog_5_method_1_code 9 = .ok (.aload_n 0, 1) := by decide +kernel
theorem d_prog_5_method_1_code_10 : decode prog_5_method_1_code 10 = .ok (.aload_n 2, 1) := by decide +kernel
theorem d_prog_5_method_1_code_11 : decode prog_5_method_1_code 11 = .ok (.putfield 13, 3) := by decide +kernel
theorem pf_4 : parseFieldDescriptor "Lcom/example/operatory/operatory/fhir/SearchValue$Prefix;" = some (.object "com/example/operatory/operatory/fhir/SearchValue$Prefix") := by decide +kernel
theorem sn_com_example_operatory_operatory_fhir_SearchValue_Alternative_prefix__text {Z : State} {a0 : Array Value} (hw : ∀ d ∈ tables_1, d.before a0 Z = true) : Jvm.RoadKit.slotOf Z "com/example/operatory/operatory/fhir/SearchValue$Alternative" "prefix" "Lcom/example/operatory/operatory/fhir/SearchValue$Prefix;" ≠ Jvm.RoadKit.slotOf Z "com/example/operatory/operatory/fhir/SearchValue$Alternative" "text" "Ljava/lang/String;" := slot_ne (Or.inr (hw _ (List.mem_of_getElem? (i := 47) rfl))) (Or.inr (hw _ (List.mem_of_getElem? (i := 45) rfl))) (by decide) pf_4 pf_3
theorem d_prog_5_method_1_code_14 : decode prog_5_method_1_code 14 = .ok (.aload_n 0, 1) := by decide +kernel
theorem d_prog_5_method_1_code_15 : decode prog_5_method_1_code 15 = .ok (.aload_n 3, 1) := by decide +kernel
theorem d_prog_5_method_1_code_16 : decode prog_5_method_1_code 16 = .ok (.putfield 17, 3) := by decide +kernel
theorem pf_5 : parseFieldDescriptor "Ljava/math/BigDecimal;" = some (.object "java/math/BigDecimal") := by decide +kernel
theorem sn_com_example_operatory_operatory_fhir_SearchValue_Alternative_number__text {Z : State} {a0 : Array Value} (hw : ∀ d ∈ tables_1, d.before a0 Z = true) : Jvm.RoadKit.slotOf Z "com/example/operatory/operatory/fhir/SearchValue$Alternative" "number" "Ljava/math/BigDecimal;" ≠ Jvm.RoadKit.slotOf Z "com/example/operatory/operatory/fhir/SearchValue$Alternative" "text" "Ljava/lang/String;" := slot_ne (Or.inr (hw _ (List.mem_of_getElem? (i := 49) rfl))) (Or.inr (hw _ (List.mem_of_getElem? (i := 45) rfl))) (by decide) pf_5 pf_3
theorem sn_com_example_operatory_operatory_fhir_SearchValue_Alternative_number__prefix {Z : State} {a0 : Array Value} (hw : ∀ d ∈ tables_1, d.before a0 Z = true) : Jvm.RoadKit.slotOf Z "com/example/operatory/operatory/fhir/SearchValue$Alternative" "number" "Ljava/math/BigDecimal;" ≠ Jvm.RoadKit.slotOf Z "com/example/operatory/operatory/fhir/SearchValue$Alternative" "prefix" "Lcom/example/operatory/operatory/fhir/SearchValue$Prefix;" := slot_ne (Or.inr (hw _ (List.mem_of_getElem? (i := 49) rfl))) (Or.inr (hw _ (List.mem_of_getElem? (i := 47) rfl))) (by decide) pf_5 pf_4
theorem d_prog_5_method_1_code_19 : decode prog_5_method_1_code 19 = .ok (.aload_n 0, 1) := by decide +kernel
theorem d_prog_5_method_1_code_20 : decode prog_5_method_1_code 20 = .ok (.aload 4, 2) := by decide +kernel
theorem d_prog_5_method_1_code_22 : decode prog_5_method_1_code 22 = .ok (.putfield 21, 3) := by decide +kernel
theorem sn_com_example_operatory_operatory_fhir_SearchValue_Alternative_date__text {Z : State} {a0 : Array Value} (hw : ∀ d ∈ tables_1, d.before a0 Z = true) : Jvm.RoadKit.slotOf Z "com/example/operatory/operatory/fhir/SearchValue$Alternative" "date" "Ljava/lang/String;" ≠ Jvm.RoadKit.slotOf Z "com/example/operatory/operatory/fhir/SearchValue$Alternative" "text" "Ljava/lang/String;" := slot_ne (Or.inr (hw _ (List.mem_of_getElem? (i := 51) rfl))) (Or.inr (hw _ (List.mem_of_getElem? (i := 45) rfl))) (by decide) pf_3 pf_3
theorem sn_com_example_operatory_operatory_fhir_SearchValue_Alternative_date__prefix {Z : State} {a0 : Array Value} (hw : ∀ d ∈ tables_1, d.before a0 Z = true) : Jvm.RoadKit.slotOf Z "com/example/operatory/operatory/fhir/SearchValue$Alternative" "date" "Ljava/lang/String;" ≠ Jvm.RoadKit.slotOf Z "com/example/operatory/operatory/fhir/SearchValue$Alternative" "prefix" "Lcom/example/operatory/operatory/fhir/SearchValue$Prefix;" := slot_ne (Or.inr (hw _ (List.mem_of_getElem? (i := 51) rfl))) (Or.inr (hw _ (List.mem_of_getElem? (i := 47) rfl))) (by decide) pf_3 pf_4
theorem sn_com_example_operatory_operatory_fhir_SearchValue_Alternative_date__number {Z : State} {a0 : Array Value} (hw : ∀ d ∈ tables_1, d.before a0 Z = true) : Jvm.RoadKit.slotOf Z "com/example/operatory/operatory/fhir/SearchValue$Alternative" "date" "Ljava/lang/String;" ≠ Jvm.RoadKit.slotOf Z "com/example/operatory/operatory/fhir/SearchValue$Alternative" "number" "Ljava/math/BigDecimal;" := slot_ne (Or.inr (hw _ (List.mem_of_getElem? (i := 51) rfl))) (Or.inr (hw _ (List.mem_of_getElem? (i := 49) rfl))) (by decide) pf_3 pf_5
theorem d_prog_5_method_1_code_25 : decode prog_5_method_1_code 25 = .ok (.aload_n 0, 1) := by decide +kernel
theorem d_prog_5_method_1_code_26 : decode prog_5_method_1_code 26 = .ok (.aload 5, 2) := by decide +kernel
theorem d_prog_5_method_1_code_28 : decode prog_5_method_1_code 28 = .ok (.putfield 24, 3) := by decide +kernel
theorem pf_6 : parseFieldDescriptor "Lcom/example/operatory/operatory/fhir/SearchValue$Precision;" = some (.object "com/example/operatory/operatory/fhir/SearchValue$Precision") := by decide +kernel
theorem sn_com_example_operatory_operatory_fhir_SearchValue_Alternative_precision__text {Z : State} {a0 : Array Value} (hw : ∀ d ∈ tables_1, d.before a0 Z = true) : Jvm.RoadKit.slotOf Z "com/example/operatory/operatory/fhir/SearchValue$Alternative" "precision" "Lcom/example/operatory/operatory/fhir/SearchValue$Precision;" ≠ Jvm.RoadKit.slotOf Z "com/example/operatory/operatory/fhir/SearchValue$Alternative" "text" "Ljava/lang/String;" := slot_ne (Or.inr (hw _ (List.mem_of_getElem? (i := 53) rfl))) (Or.inr (hw _ (List.mem_of_getElem? (i := 45) rfl))) (by decide) pf_6 pf_3
theorem sn_com_example_operatory_operatory_fhir_SearchValue_Alternative_precision__prefix {Z : State} {a0 : Array Value} (hw : ∀ d ∈ tables_1, d.before a0 Z = true) : Jvm.RoadKit.slotOf Z "com/example/operatory/operatory/fhir/SearchValue$Alternative" "precision" "Lcom/example/operatory/operatory/fhir/SearchValue$Precision;" ≠ Jvm.RoadKit.slotOf Z "com/example/operatory/operatory/fhir/SearchValue$Alternative" "prefix" "Lcom/example/operatory/operatory/fhir/SearchValue$Prefix;" := slot_ne (Or.inr (hw _ (List.mem_of_getElem? (i := 53) rfl))) (Or.inr (hw _ (List.mem_of_getElem? (i := 47) rfl))) (by decide) pf_6 pf_4
theorem sn_com_example_operatory_operatory_fhir_SearchValue_Alternative_precision__number {Z : State} {a0 : Array Value} (hw : ∀ d ∈ tables_1, d.before a0 Z = true) : Jvm.RoadKit.slotOf Z "com/example/operatory/operatory/fhir/SearchValue$Alternative" "precision" "Lcom/example/operatory/operatory/fhir/SearchValue$Precision;" ≠ Jvm.RoadKit.slotOf Z "com/example/operatory/operatory/fhir/SearchValue$Alternative" "number" "Ljava/math/BigDecimal;" := slot_ne (Or.inr (hw _ (List.mem_of_getElem? (i := 53) rfl))) (Or.inr (hw _ (List.mem_of_getElem? (i := 49) rfl))) (by decide) pf_6 pf_5
theorem sn_com_example_operatory_operatory_fhir_SearchValue_Alternative_precision__date {Z : State} {a0 : Array Value} (hw : ∀ d ∈ tables_1, d.before a0 Z = true) : Jvm.RoadKit.slotOf Z "com/example/operatory/operatory/fhir/SearchValue$Alternative" "precision" "Lcom/example/operatory/operatory/fhir/SearchValue$Precision;" ≠ Jvm.RoadKit.slotOf Z "com/example/operatory/operatory/fhir/SearchValue$Alternative" "date" "Ljava/lang/String;" := slot_ne (Or.inr (hw _ (List.mem_of_getElem? (i := 53) rfl))) (Or.inr (hw _ (List.mem_of_getElem? (i := 51) rfl))) (by decide) pf_6 pf_3
theorem d_prog_5_method_1_code_31 : decode prog_5_method_1_code 31 = .ok (.aload_n 0, 1) := by decide +kernel
theorem d_prog_5_method_1_code_32 : decode prog_5_method_1_code 32 = .ok (.aload 6, 2) := by decide +kernel
theorem d_prog_5_method_1_code_34 : decode prog_5_method_1_code 34 = .ok (.putfield 28, 3) := by decide +kernel
theorem sn_com_example_operatory_operatory_fhir_SearchValue_Alternative_system__text {Z : State} {a0 : Array Value} (hw : ∀ d ∈ tables_1, d.before a0 Z = true) : Jvm.RoadKit.slotOf Z "com/example/operatory/operatory/fhir/SearchValue$Alternative" "system" "Ljava/lang/String;" ≠ Jvm.RoadKit.slotOf Z "com/example/operatory/operatory/fhir/SearchValue$Alternative" "text" "Ljava/lang/String;" := slot_ne (Or.inr (hw _ (List.mem_of_getElem? (i := 55) rfl))) (Or.inr (hw _ (List.mem_of_getElem? (i := 45) rfl))) (by decide) pf_3 pf_3
theorem sn_com_example_operatory_operatory_fhir_SearchValue_Alternative_system__prefix {Z : State} {a0 : Array Value} (hw : ∀ d ∈ tables_1, d.before a0 Z = true) : Jvm.RoadKit.slotOf Z "com/example/operatory/operatory/fhir/SearchValue$Alternative" "system" "Ljava/lang/String;" ≠ Jvm.RoadKit.slotOf Z "com/example/operatory/operatory/fhir/SearchValue$Alternative" "prefix" "Lcom/example/operatory/operatory/fhir/SearchValue$Prefix;" := slot_ne (Or.inr (hw _ (List.mem_of_getElem? (i := 55) rfl))) (Or.inr (hw _ (List.mem_of_getElem? (i := 47) rfl))) (by decide) pf_3 pf_4
theorem sn_com_example_operatory_operatory_fhir_SearchValue_Alternative_system__number {Z : State} {a0 : Array Value} (hw : ∀ d ∈ tables_1, d.before a0 Z = true) : Jvm.RoadKit.slotOf Z "com/example/operatory/operatory/fhir/SearchValue$Alternative" "system" "Ljava/lang/String;" ≠ Jvm.RoadKit.slotOf Z "com/example/operatory/operatory/fhir/SearchValue$Alternative" "number" "Ljava/math/BigDecimal;" := slot_ne (Or.inr (hw _ (List.mem_of_getElem? (i := 55) rfl))) (Or.inr (hw _ (List.mem_of_getElem? (i := 49) rfl))) (by decide) pf_3 pf_5
theorem sn_com_example_operatory_operatory_fhir_SearchValue_Alternative_system__date {Z : State} {a0 : Array Value} (hw : ∀ d ∈ tables_1, d.before a0 Z = true) : Jvm.RoadKit.slotOf Z "com/example/operatory/operatory/fhir/SearchValue$Alternative" "system" "Ljava/lang/String;" ≠ Jvm.RoadKit.slotOf Z "com/example/operatory/operatory/fhir/SearchValue$Alternative" "date" "Ljava/lang/String;" := slot_ne (Or.inr (hw _ (List.mem_of_getElem? (i := 55) rfl))) (Or.inr (hw _ (List.mem_of_getElem? (i := 51) rfl))) (by decide) pf_3 pf_3
theorem sn_com_example_operatory_operatory_fhir_SearchValue_Alternative_system__precision {Z : State} {a0 : Array Value} (hw : ∀ d ∈ tables_1, d.before a0 Z = true) : Jvm.RoadKit.slotOf Z "com/example/operatory/operatory/fhir/SearchValue$Alternative" "system" "Ljava/lang/String;" ≠ Jvm.RoadKit.slotOf Z "com/example/operatory/operatory/fhir/SearchValue$Alternative" "precision" "Lcom/example/operatory/operatory/fhir/SearchValue$Precision;" := slot_ne (Or.inr (hw _ (List.mem_of_getElem? (i := 55) rfl))) (Or.inr (hw _ (List.mem_of_getElem? (i := 53) rfl))) (by decide) pf_3 pf_6
theorem d_prog_5_method_1_code_37 : decode prog_5_method_1_code 37 = .ok (.aload_n 0, 1) := by decide +kernel
theorem d_prog_5_method_1_code_38 : decode prog_5_method_1_code 38 = .ok (.iload 7, 2) := by decide +kernel
theorem d_prog_5_method_1_code_40 : decode prog_5_method_1_code 40 = .ok (.putfield 31, 3) := by decide +kernel
theorem pf_7 : parseFieldDescriptor "Z" = some .boolean := by decide +kernel
theorem sn_com_example_operatory_operatory_fhir_SearchValue_Alternative_noSystem__text {Z : State} {a0 : Array Value} (hw : ∀ d ∈ tables_1, d.before a0 Z = true) : Jvm.RoadKit.slotOf Z "com/example/operatory/operatory/fhir/SearchValue$Alternative" "noSystem" "Z" ≠ Jvm.RoadKit.slotOf Z "com/example/operatory/operatory/fhir/SearchValue$Alternative" "text" "Ljava/lang/String;" := slot_ne (Or.inr (hw _ (List.mem_of_getElem? (i := 57) rfl))) (Or.inr (hw _ (List.mem_of_getElem? (i := 45) rfl))) (by decide) pf_7 pf_3
theorem sn_com_example_operatory_operatory_fhir_SearchValue_Alternative_noSystem__prefix {Z : State} {a0 : Array Value} (hw : ∀ d ∈ tables_1, d.before a0 Z = true) : Jvm.RoadKit.slotOf Z "com/example/operatory/operatory/fhir/SearchValue$Alternative" "noSystem" "Z" ≠ Jvm.RoadKit.slotOf Z "com/example/operatory/operatory/fhir/SearchValue$Alternative" "prefix" "Lcom/example/operatory/operatory/fhir/SearchValue$Prefix;" := slot_ne (Or.inr (hw _ (List.mem_of_getElem? (i := 57) rfl))) (Or.inr (hw _ (List.mem_of_getElem? (i := 47) rfl))) (by decide) pf_7 pf_4
theorem sn_com_example_operatory_operatory_fhir_SearchValue_Alternative_noSystem__number {Z : State} {a0 : Array Value} (hw : ∀ d ∈ tables_1, d.before a0 Z = true) : Jvm.RoadKit.slotOf Z "com/example/operatory/operatory/fhir/SearchValue$Alternative" "noSystem" "Z" ≠ Jvm.RoadKit.slotOf Z "com/example/operatory/operatory/fhir/SearchValue$Alternative" "number" "Ljava/math/BigDecimal;" := slot_ne (Or.inr (hw _ (List.mem_of_getElem? (i := 57) rfl))) (Or.inr (hw _ (List.mem_of_getElem? (i := 49) rfl))) (by decide) pf_7 pf_5
theorem sn_com_example_operatory_operatory_fhir_SearchValue_Alternative_noSystem__date {Z : State} {a0 : Array Value} (hw : ∀ d ∈ tables_1, d.before a0 Z = true) : Jvm.RoadKit.slotOf Z "com/example/operatory/operatory/fhir/SearchValue$Alternative" "noSystem" "Z" ≠ Jvm.RoadKit.slotOf Z "com/example/operatory/operatory/fhir/SearchValue$Alternative" "date" "Ljava/lang/String;" := slot_ne (Or.inr (hw _ (List.mem_of_getElem? (i := 57) rfl))) (Or.inr (hw _ (List.mem_of_getElem? (i := 51) rfl))) (by decide) pf_7 pf_3
theorem sn_com_example_operatory_operatory_fhir_SearchValue_Alternative_noSystem__precision {Z : State} {a0 : Array Value} (hw : ∀ d ∈ tables_1, d.before a0 Z = true) : Jvm.RoadKit.slotOf Z "com/example/operatory/operatory/fhir/SearchValue$Alternative" "noSystem" "Z" ≠ Jvm.RoadKit.slotOf Z "com/example/operatory/operatory/fhir/SearchValue$Alternative" "precision" "Lcom/example/operatory/operatory/fhir/SearchValue$Precision;" := slot_ne (Or.inr (hw _ (List.mem_of_getElem? (i := 57) rfl))) (Or.inr (hw _ (List.mem_of_getElem? (i := 53) rfl))) (by decide) pf_7 pf_6
theorem sn_com_example_operatory_operatory_fhir_SearchValue_Alternative_noSystem__system {Z : State} {a0 : Array Value} (hw : ∀ d ∈ tables_1, d.before a0 Z = true) : Jvm.RoadKit.slotOf Z "com/example/operatory/operatory/fhir/SearchValue$Alternative" "noSystem" "Z" ≠ Jvm.RoadKit.slotOf Z "com/example/operatory/operatory/fhir/SearchValue$Alternative" "system" "Ljava/lang/String;" := slot_ne (Or.inr (hw _ (List.mem_of_getElem? (i := 57) rfl))) (Or.inr (hw _ (List.mem_of_getElem? (i := 55) rfl))) (by decide) pf_7 pf_3
theorem d_prog_5_method_1_code_43 : decode prog_5_method_1_code 43 = .ok (.aload_n 0, 1) := by decide +kernel
theorem d_prog_5_method_1_code_44 : decode prog_5_method_1_code 44 = .ok (.aload 8, 2) := by decide +kernel
theorem d_prog_5_method_1_code_46 : decode prog_5_method_1_code 46 = .ok (.putfield 35, 3) := by decide +kernel
theorem sn_com_example_operatory_operatory_fhir_SearchValue_Alternative_code__text {Z : State} {a0 : Array Value} (hw : ∀ d ∈ tables_1, d.before a0 Z = true) : Jvm.RoadKit.slotOf Z "com/example/operatory/operatory/fhir/SearchValue$Alternative" "code" "Ljava/lang/String;" ≠ Jvm.RoadKit.slotOf Z "com/example/operatory/operatory/fhir/SearchValue$Alternative" "text" "Ljava/lang/String;" := slot_ne (Or.inr (hw _ (List.mem_of_getElem? (i := 59) rfl))) (Or.inr (hw _ (List.mem_of_getElem? (i := 45) rfl))) (by decide) pf_3 pf_3
theorem sn_com_example_operatory_operatory_fhir_SearchValue_Alternative_code__prefix {Z : State} {a0 : Array Value} (hw : ∀ d ∈ tables_1, d.before a0 Z = true) : Jvm.RoadKit.slotOf Z "com/example/operatory/operatory/fhir/SearchValue$Alternative" "code" "Ljava/lang/String;" ≠ Jvm.RoadKit.slotOf Z "com/example/operatory/operatory/fhir/SearchValue$Alternative" "prefix" "Lcom/example/operatory/operatory/fhir/SearchValue$Prefix;" := slot_ne (Or.inr (hw _ (List.mem_of_getElem? (i := 59) rfl))) (Or.inr (hw _ (List.mem_of_getElem? (i := 47) rfl))) (by decide) pf_3 pf_4
theorem sn_com_example_operatory_operatory_fhir_SearchValue_Alternative_code__number {Z : State} {a0 : Array Value} (hw : ∀ d ∈ tables_1, d.before a0 Z = true) : Jvm.RoadKit.slotOf Z "com/example/operatory/operatory/fhir/SearchValue$Alternative" "code" "Ljava/lang/String;" ≠ Jvm.RoadKit.slotOf Z "com/example/operatory/operatory/fhir/SearchValue$Alternative" "number" "Ljava/math/BigDecimal;" := slot_ne (Or.inr (hw _ (List.mem_of_getElem? (i := 59) rfl))) (Or.inr (hw _ (List.mem_of_getElem? (i := 49) rfl))) (by decide) pf_3 pf_5
theorem sn_com_example_operatory_operatory_fhir_SearchValue_Alternative_code__date {Z : State} {a0 : Array Value} (hw : ∀ d ∈ tables_1, d.before a0 Z = true) : Jvm.RoadKit.slotOf Z "com/example/operatory/operatory/fhir/SearchValue$Alternative" "code" "Ljava/lang/String;" ≠ Jvm.RoadKit.slotOf Z "com/example/operatory/operatory/fhir/SearchValue$Alternative" "date" "Ljava/lang/String;" := slot_ne (Or.inr (hw _ (List.mem_of_getElem? (i := 59) rfl))) (Or.inr (hw _ (List.mem_of_getElem? (i := 51) rfl))) (by decide) pf_3 pf_3
theorem sn_com_example_operatory_operatory_fhir_SearchValue_Alternative_code__precision {Z : State} {a0 : Array Value} (hw : ∀ d ∈ tables_1, d.before a0 Z = true) : Jvm.RoadKit.slotOf Z "com/example/operatory/operatory/fhir/SearchValue$Alternative" "code" "Ljava/lang/String;" ≠ Jvm.RoadKit.slotOf Z "com/example/operatory/operatory/fhir/SearchValue$Alternative" "precision" "Lcom/example/operatory/operatory/fhir/SearchValue$Precision;" := slot_ne (Or.inr (hw _ (List.mem_of_getElem? (i := 59) rfl))) (Or.inr (hw _ (List.mem_of_getElem? (i := 53) rfl))) (by decide) pf_3 pf_6
theorem sn_com_example_operatory_operatory_fhir_SearchValue_Alternative_code__system {Z : State} {a0 : Array Value} (hw : ∀ d ∈ tables_1, d.before a0 Z = true) : Jvm.RoadKit.slotOf Z "com/example/operatory/operatory/fhir/SearchValue$Alternative" "code" "Ljava/lang/String;" ≠ Jvm.RoadKit.slotOf Z "com/example/operatory/operatory/fhir/SearchValue$Alternative" "system" "Ljava/lang/String;" := slot_ne (Or.inr (hw _ (List.mem_of_getElem? (i := 59) rfl))) (Or.inr (hw _ (List.mem_of_getElem? (i := 55) rfl))) (by decide) pf_3 pf_3
theorem sn_com_example_operatory_operatory_fhir_SearchValue_Alternative_code__noSystem {Z : State} {a0 : Array Value} (hw : ∀ d ∈ tables_1, d.before a0 Z = true) : Jvm.RoadKit.slotOf Z "com/example/operatory/operatory/fhir/SearchValue$Alternative" "code" "Ljava/lang/String;" ≠ Jvm.RoadKit.slotOf Z "com/example/operatory/operatory/fhir/SearchValue$Alternative" "noSystem" "Z" := slot_ne (Or.inr (hw _ (List.mem_of_getElem? (i := 59) rfl))) (Or.inr (hw _ (List.mem_of_getElem? (i := 57) rfl))) (by decide) pf_3 pf_7
theorem d_prog_5_method_1_code_49 : decode prog_5_method_1_code 49 = .ok (.aload_n 0, 1) := by decide +kernel
theorem d_prog_5_method_1_code_50 : decode prog_5_method_1_code 50 = .ok (.aload 9, 2) := by decide +kernel
theorem d_prog_5_method_1_code_52 : decode prog_5_method_1_code 52 = .ok (.putfield 38, 3) := by decide +kernel
theorem sn_com_example_operatory_operatory_fhir_SearchValue_Alternative_value__text {Z : State} {a0 : Array Value} (hw : ∀ d ∈ tables_1, d.before a0 Z = true) : Jvm.RoadKit.slotOf Z "com/example/operatory/operatory/fhir/SearchValue$Alternative" "value" "Ljava/lang/String;" ≠ Jvm.RoadKit.slotOf Z "com/example/operatory/operatory/fhir/SearchValue$Alternative" "text" "Ljava/lang/String;" := slot_ne (Or.inr (hw _ (List.mem_of_getElem? (i := 61) rfl))) (Or.inr (hw _ (List.mem_of_getElem? (i := 45) rfl))) (by decide) pf_3 pf_3
theorem sn_com_example_operatory_operatory_fhir_SearchValue_Alternative_value__prefix {Z : State} {a0 : Array Value} (hw : ∀ d ∈ tables_1, d.before a0 Z = true) : Jvm.RoadKit.slotOf Z "com/example/operatory/operatory/fhir/SearchValue$Alternative" "value" "Ljava/lang/String;" ≠ Jvm.RoadKit.slotOf Z "com/example/operatory/operatory/fhir/SearchValue$Alternative" "prefix" "Lcom/example/operatory/operatory/fhir/SearchValue$Prefix;" := slot_ne (Or.inr (hw _ (List.mem_of_getElem? (i := 61) rfl))) (Or.inr (hw _ (List.mem_of_getElem? (i := 47) rfl))) (by decide) pf_3 pf_4
theorem sn_com_example_operatory_operatory_fhir_SearchValue_Alternative_value__number {Z : State} {a0 : Array Value} (hw : ∀ d ∈ tables_1, d.before a0 Z = true) : Jvm.RoadKit.slotOf Z "com/example/operatory/operatory/fhir/SearchValue$Alternative" "value" "Ljava/lang/String;" ≠ Jvm.RoadKit.slotOf Z "com/example/operatory/operatory/fhir/SearchValue$Alternative" "number" "Ljava/math/BigDecimal;" := slot_ne (Or.inr (hw _ (List.mem_of_getElem? (i := 61) rfl))) (Or.inr (hw _ (List.mem_of_getElem? (i := 49) rfl))) (by decide) pf_3 pf_5
theorem sn_com_example_operatory_operatory_fhir_SearchValue_Alternative_value__date {Z : State} {a0 : Array Value} (hw : ∀ d ∈ tables_1, d.before a0 Z = true) : Jvm.RoadKit.slotOf Z "com/example/operatory/operatory/fhir/SearchValue$Alternative" "value" "Ljava/lang/String;" ≠ Jvm.RoadKit.slotOf Z "com/example/operatory/operatory/fhir/SearchValue$Alternative" "date" "Ljava/lang/String;" := slot_ne (Or.inr (hw _ (List.mem_of_getElem? (i := 61) rfl))) (Or.inr (hw _ (List.mem_of_getElem? (i := 51) rfl))) (by decide) pf_3 pf_3
theorem sn_com_example_operatory_operatory_fhir_SearchValue_Alternative_value__precision {Z : State} {a0 : Array Value} (hw : ∀ d ∈ tables_1, d.before a0 Z = true) : Jvm.RoadKit.slotOf Z "com/example/operatory/operatory/fhir/SearchValue$Alternative" "value" "Ljava/lang/String;" ≠ Jvm.RoadKit.slotOf Z "com/example/operatory/operatory/fhir/SearchValue$Alternative" "precision" "Lcom/example/operatory/operatory/fhir/SearchValue$Precision;" := slot_ne (Or.inr (hw _ (List.mem_of_getElem? (i := 61) rfl))) (Or.inr (hw _ (List.mem_of_getElem? (i := 53) rfl))) (by decide) pf_3 pf_6
theorem sn_com_example_operatory_operatory_fhir_SearchValue_Alternative_value__system {Z : State} {a0 : Array Value} (hw : ∀ d ∈ tables_1, d.before a0 Z = true) : Jvm.RoadKit.slotOf Z "com/example/operatory/operatory/fhir/SearchValue$Alternative" "value" "Ljava/lang/String;" ≠ Jvm.RoadKit.slotOf Z "com/example/operatory/operatory/fhir/SearchValue$Alternative" "system" "Ljava/lang/String;" := slot_ne (Or.inr (hw _ (List.mem_of_getElem? (i := 61) rfl))) (Or.inr (hw _ (List.mem_of_getElem? (i := 55) rfl))) (by decide) pf_3 pf_3
theorem sn_com_example_operatory_operatory_fhir_SearchValue_Alternative_value__noSystem {Z : State} {a0 : Array Value} (hw : ∀ d ∈ tables_1, d.before a0 Z = true) : Jvm.RoadKit.slotOf Z "com/example/operatory/operatory/fhir/SearchValue$Alternative" "value" "Ljava/lang/String;" ≠ Jvm.RoadKit.slotOf Z "com/example/operatory/operatory/fhir/SearchValue$Alternative" "noSystem" "Z" := slot_ne (Or.inr (hw _ (List.mem_of_getElem? (i := 61) rfl))) (Or.inr (hw _ (List.mem_of_getElem? (i := 57) rfl))) (by decide) pf_3 pf_7
theorem sn_com_example_operatory_operatory_fhir_SearchValue_Alternative_value__code {Z : State} {a0 : Array Value} (hw : ∀ d ∈ tables_1, d.before a0 Z = true) : Jvm.RoadKit.slotOf Z "com/example/operatory/operatory/fhir/SearchValue$Alternative" "value" "Ljava/lang/String;" ≠ Jvm.RoadKit.slotOf Z "com/example/operatory/operatory/fhir/SearchValue$Alternative" "code" "Ljava/lang/String;" := slot_ne (Or.inr (hw _ (List.mem_of_getElem? (i := 61) rfl))) (Or.inr (hw _ (List.mem_of_getElem? (i := 59) rfl))) (by decide) pf_3 pf_3
theorem d_prog_5_method_1_code_55 : decode prog_5_method_1_code 55 = .ok (.aload_n 0, 1) := by decide +kernel
theorem d_prog_5_method_1_code_56 : decode prog_5_method_1_code 56 = .ok (.aload 10, 2) := by decide +kernel
theorem d_prog_5_method_1_code_58 : decode prog_5_method_1_code 58 = .ok (.putfield 41, 3) := by decide +kernel
theorem sn_com_example_operatory_operatory_fhir_SearchValue_Alternative_type__text {Z : State} {a0 : Array Value} (hw : ∀ d ∈ tables_1, d.before a0 Z = true) : Jvm.RoadKit.slotOf Z "com/example/operatory/operatory/fhir/SearchValue$Alternative" "type" "Ljava/lang/String;" ≠ Jvm.RoadKit.slotOf Z "com/example/operatory/operatory/fhir/SearchValue$Alternative" "text" "Ljava/lang/String;" := slot_ne (Or.inr (hw _ (List.mem_of_getElem? (i := 63) rfl))) (Or.inr (hw _ (List.mem_of_getElem? (i := 45) rfl))) (by decide) pf_3 pf_3
theorem sn_com_example_operatory_operatory_fhir_SearchValue_Alternative_type__prefix {Z : State} {a0 : Array Value} (hw : ∀ d ∈ tables_1, d.before a0 Z = true) : Jvm.RoadKit.slotOf Z "com/example/operatory/operatory/fhir/SearchValue$Alternative" "type" "Ljava/lang/String;" ≠ Jvm.RoadKit.slotOf Z "com/example/operatory/operatory/fhir/SearchValue$Alternative" "prefix" "Lcom/example/operatory/operatory/fhir/SearchValue$Prefix;" := slot_ne (Or.inr (hw _ (List.mem_of_getElem? (i := 63) rfl))) (Or.inr (hw _ (List.mem_of_getElem? (i := 47) rfl))) (by decide) pf_3 pf_4
theorem sn_com_example_operatory_operatory_fhir_SearchValue_Alternative_type__number {Z : State} {a0 : Array Value} (hw : ∀ d ∈ tables_1, d.before a0 Z = true) : Jvm.RoadKit.slotOf Z "com/example/operatory/operatory/fhir/SearchValue$Alternative" "type" "Ljava/lang/String;" ≠ Jvm.RoadKit.slotOf Z "com/example/operatory/operatory/fhir/SearchValue$Alternative" "number" "Ljava/math/BigDecimal;" := slot_ne (Or.inr (hw _ (List.mem_of_getElem? (i := 63) rfl))) (Or.inr (hw _ (List.mem_of_getElem? (i := 49) rfl))) (by decide) pf_3 pf_5
theorem sn_com_example_operatory_operatory_fhir_SearchValue_Alternative_type__date {Z : State} {a0 : Array Value} (hw : ∀ d ∈ tables_1, d.before a0 Z = true) : Jvm.RoadKit.slotOf Z "com/example/operatory/operatory/fhir/SearchValue$Alternative" "type" "Ljava/lang/String;" ≠ Jvm.RoadKit.slotOf Z "com/example/operatory/operatory/fhir/SearchValue$Alternative" "date" "Ljava/lang/String;" := slot_ne (Or.inr (hw _ (List.mem_of_getElem? (i := 63) rfl))) (Or.inr (hw _ (List.mem_of_getElem? (i := 51) rfl))) (by decide) pf_3 pf_3
theorem sn_com_example_operatory_operatory_fhir_SearchValue_Alternative_type__precision {Z : State} {a0 : Array Value} (hw : ∀ d ∈ tables_1, d.before a0 Z = true) : Jvm.RoadKit.slotOf Z "com/example/operatory/operatory/fhir/SearchValue$Alternative" "type" "Ljava/lang/String;" ≠ Jvm.RoadKit.slotOf Z "com/example/operatory/operatory/fhir/SearchValue$Alternative" "precision" "Lcom/example/operatory/operatory/fhir/SearchValue$Precision;" := slot_ne (Or.inr (hw _ (List.mem_of_getElem? (i := 63) rfl))) (Or.inr (hw _ (List.mem_of_getElem? (i := 53) rfl))) (by decide) pf_3 pf_6
theorem sn_com_example_operatory_operatory_fhir_SearchValue_Alternative_type__system {Z : State} {a0 : Array Value} (hw : ∀ d ∈ tables_1, d.before a0 Z = true) : Jvm.RoadKit.slotOf Z "com/example/operatory/operatory/fhir/SearchValue$Alternative" "type" "Ljava/lang/String;" ≠ Jvm.RoadKit.slotOf Z "com/example/operatory/operatory/fhir/SearchValue$Alternative" "system" "Ljava/lang/String;" := slot_ne (Or.inr (hw _ (List.mem_of_getElem? (i := 63) rfl))) (Or.inr (hw _ (List.mem_of_getElem? (i := 55) rfl))) (by decide) pf_3 pf_3
theorem sn_com_example_operatory_operatory_fhir_SearchValue_Alternative_type__noSystem {Z : State} {a0 : Array Value} (hw : ∀ d ∈ tables_1, d.before a0 Z = true) : Jvm.RoadKit.slotOf Z "com/example/operatory/operatory/fhir/SearchValue$Alternative" "type" "Ljava/lang/String;" ≠ Jvm.RoadKit.slotOf Z "com/example/operatory/operatory/fhir/SearchValue$Alternative" "noSystem" "Z" := slot_ne (Or.inr (hw _ (List.mem_of_getElem? (i := 63) rfl))) (Or.inr (hw _ (List.mem_of_getElem? (i := 57) rfl))) (by decide) pf_3 pf_7
theorem sn_com_example_operatory_operatory_fhir_SearchValue_Alternative_type__code {Z : State} {a0 : Array Value} (hw : ∀ d ∈ tables_1, d.before a0 Z = true) : Jvm.RoadKit.slotOf Z "com/example/operatory/operatory/fhir/SearchValue$Alternative" "type" "Ljava/lang/String;" ≠ Jvm.RoadKit.slotOf Z "com/example/operatory/operatory/fhir/SearchValue$Alternative" "code" "Ljava/lang/String;" := slot_ne (Or.inr (hw _ (List.mem_of_getElem? (i := 63) rfl))) (Or.inr (hw _ (List.mem_of_getElem? (i := 59) rfl))) (by decide) pf_3 pf_3
theorem sn_com_example_operatory_operatory_fhir_SearchValue_Alternative_type__value {Z : State} {a0 : Array Value} (hw : ∀ d ∈ tables_1, d.before a0 Z = true) : Jvm.RoadKit.slotOf Z "com/example/operatory/operatory/fhir/SearchValue$Alternative" "type" "Ljava/lang/String;" ≠ Jvm.RoadKit.slotOf Z "com/example/operatory/operatory/fhir/SearchValue$Alternative" "value" "Ljava/lang/String;" := slot_ne (Or.inr (hw _ (List.mem_of_getElem? (i := 63) rfl))) (Or.inr (hw _ (List.mem_of_getElem? (i := 61) rfl))) (by decide) pf_3 pf_3
theorem d_prog_5_method_1_code_61 : decode prog_5_method_1_code 61 = .ok (.aload_n 0, 1) := by decide +kernel
theorem d_prog_5_method_1_code_62 : decode prog_5_method_1_code 62 = .ok (.aload 11, 2) := by decide +kernel
theorem d_prog_5_method_1_code_64 : decode prog_5_method_1_code 64 = .ok (.putfield 44, 3) := by decide +kernel
theorem sn_com_example_operatory_operatory_fhir_SearchValue_Alternative_id__text {Z : State} {a0 : Array Value} (hw : ∀ d ∈ tables_1, d.before a0 Z = true) : Jvm.RoadKit.slotOf Z "com/example/operatory/operatory/fhir/SearchValue$Alternative" "id" "Ljava/lang/String;" ≠ Jvm.RoadKit.slotOf Z "com/example/operatory/operatory/fhir/SearchValue$Alternative" "text" "Ljava/lang/String;" := slot_ne (Or.inr (hw _ (List.mem_of_getElem? (i := 65) rfl))) (Or.inr (hw _ (List.mem_of_getElem? (i := 45) rfl))) (by decide) pf_3 pf_3
theorem sn_com_example_operatory_operatory_fhir_SearchValue_Alternative_id__prefix {Z : State} {a0 : Array Value} (hw : ∀ d ∈ tables_1, d.before a0 Z = true) : Jvm.RoadKit.slotOf Z "com/example/operatory/operatory/fhir/SearchValue$Alternative" "id" "Ljava/lang/String;" ≠ Jvm.RoadKit.slotOf Z "com/example/operatory/operatory/fhir/SearchValue$Alternative" "prefix" "Lcom/example/operatory/operatory/fhir/SearchValue$Prefix;" := slot_ne (Or.inr (hw _ (List.mem_of_getElem? (i := 65) rfl))) (Or.inr (hw _ (List.mem_of_getElem? (i := 47) rfl))) (by decide) pf_3 pf_4
theorem sn_com_example_operatory_operatory_fhir_SearchValue_Alternative_id__number {Z : State} {a0 : Array Value} (hw : ∀ d ∈ tables_1, d.before a0 Z = true) : Jvm.RoadKit.slotOf Z "com/example/operatory/operatory/fhir/SearchValue$Alternative" "id" "Ljava/lang/String;" ≠ Jvm.RoadKit.slotOf Z "com/example/operatory/operatory/fhir/SearchValue$Alternative" "number" "Ljava/math/BigDecimal;" := slot_ne (Or.inr (hw _ (List.mem_of_getElem? (i := 65) rfl))) (Or.inr (hw _ (List.mem_of_getElem? (i := 49) rfl))) (by decide) pf_3 pf_5
theorem sn_com_example_operatory_operatory_fhir_SearchValue_Alternative_id__date {Z : State} {a0 : Array Value} (hw : ∀ d ∈ tables_1, d.before a0 Z = true) : Jvm.RoadKit.slotOf Z "com/example/operatory/operatory/fhir/SearchValue$Alternative" "id" "Ljava/lang/String;" ≠ Jvm.RoadKit.slotOf Z "com/example/operatory/operatory/fhir/SearchValue$Alternative" "date" "Ljava/lang/String;" := slot_ne (Or.inr (hw _ (List.mem_of_getElem? (i := 65) rfl))) (Or.inr (hw _ (List.mem_of_getElem? (i := 51) rfl))) (by decide) pf_3 pf_3
theorem sn_com_example_operatory_operatory_fhir_SearchValue_Alternative_id__precision {Z : State} {a0 : Array Value} (hw : ∀ d ∈ tables_1, d.before a0 Z = true) : Jvm.RoadKit.slotOf Z "com/example/operatory/operatory/fhir/SearchValue$Alternative" "id" "Ljava/lang/String;" ≠ Jvm.RoadKit.slotOf Z "com/example/operatory/operatory/fhir/SearchValue$Alternative" "precision" "Lcom/example/operatory/operatory/fhir/SearchValue$Precision;" := slot_ne (Or.inr (hw _ (List.mem_of_getElem? (i := 65) rfl))) (Or.inr (hw _ (List.mem_of_getElem? (i := 53) rfl))) (by decide) pf_3 pf_6
theorem sn_com_example_operatory_operatory_fhir_SearchValue_Alternative_id__system {Z : State} {a0 : Array Value} (hw : ∀ d ∈ tables_1, d.before a0 Z = true) : Jvm.RoadKit.slotOf Z "com/example/operatory/operatory/fhir/SearchValue$Alternative" "id" "Ljava/lang/String;" ≠ Jvm.RoadKit.slotOf Z "com/example/operatory/operatory/fhir/SearchValue$Alternative" "system" "Ljava/lang/String;" := slot_ne (Or.inr (hw _ (List.mem_of_getElem? (i := 65) rfl))) (Or.inr (hw _ (List.mem_of_getElem? (i := 55) rfl))) (by decide) pf_3 pf_3
theorem sn_com_example_operatory_operatory_fhir_SearchValue_Alternative_id__noSystem {Z : State} {a0 : Array Value} (hw : ∀ d ∈ tables_1, d.before a0 Z = true) : Jvm.RoadKit.slotOf Z "com/example/operatory/operatory/fhir/SearchValue$Alternative" "id" "Ljava/lang/String;" ≠ Jvm.RoadKit.slotOf Z "com/example/operatory/operatory/fhir/SearchValue$Alternative" "noSystem" "Z" := slot_ne (Or.inr (hw _ (List.mem_of_getElem? (i := 65) rfl))) (Or.inr (hw _ (List.mem_of_getElem? (i := 57) rfl))) (by decide) pf_3 pf_7
theorem sn_com_example_operatory_operatory_fhir_SearchValue_Alternative_id__code {Z : State} {a0 : Array Value} (hw : ∀ d ∈ tables_1, d.before a0 Z = true) : Jvm.RoadKit.slotOf Z "com/example/operatory/operatory/fhir/SearchValue$Alternative" "id" "Ljava/lang/String;" ≠ Jvm.RoadKit.slotOf Z "com/example/operatory/operatory/fhir/SearchValue$Alternative" "code" "Ljava/lang/String;" := slot_ne (Or.inr (hw _ (List.mem_of_getElem? (i := 65) rfl))) (Or.inr (hw _ (List.mem_of_getElem? (i := 59) rfl))) (by decide) pf_3 pf_3
theorem sn_com_example_operatory_operatory_fhir_SearchValue_Alternative_id__value {Z : State} {a0 : Array Value} (hw : ∀ d ∈ tables_1, d.before a0 Z = true) : Jvm.RoadKit.slotOf Z "com/example/operatory/operatory/fhir/SearchValue$Alternative" "id" "Ljava/lang/String;" ≠ Jvm.RoadKit.slotOf Z "com/example/operatory/operatory/fhir/SearchValue$Alternative" "value" "Ljava/lang/String;" := slot_ne (Or.inr (hw _ (List.mem_of_getElem? (i := 65) rfl))) (Or.inr (hw _ (List.mem_of_getElem? (i := 61) rfl))) (by decide) pf_3 pf_3
theorem sn_com_example_operatory_operatory_fhir_SearchValue_Alternative_id__type {Z : State} {a0 : Array Value} (hw : ∀ d ∈ tables_1, d.before a0 Z = true) : Jvm.RoadKit.slotOf Z "com/example/operatory/operatory/fhir/SearchValue$Alternative" "id" "Ljava/lang/String;" ≠ Jvm.RoadKit.slotOf Z "com/example/operatory/operatory/fhir/SearchValue$Alternative" "type" "Ljava/lang/String;" := slot_ne (Or.inr (hw _ (List.mem_of_getElem? (i := 65) rfl))) (Or.inr (hw _ (List.mem_of_getElem? (i := 63) rfl))) (by decide) pf_3 pf_3
theorem d_prog_5_method_1_code_67 : decode prog_5_method_1_code 67 = .ok (.aload_n 0, 1) := by decide +kernel
theorem d_prog_5_method_1_code_68 : decode prog_5_method_1_code 68 = .ok (.aload 12, 2) := by decide +kernel
theorem d_prog_5_method_1_code_70 : decode prog_5_method_1_code 70 = .ok (.putfield 47, 3) := by decide +kernel
theorem sn_com_example_operatory_operatory_fhir_SearchValue_Alternative_url__text {Z : State} {a0 : Array Value} (hw : ∀ d ∈ tables_1, d.before a0 Z = true) : Jvm.RoadKit.slotOf Z "com/example/operatory/operatory/fhir/SearchValue$Alternative" "url" "Ljava/lang/String;" ≠ Jvm.RoadKit.slotOf Z "com/example/operatory/operatory/fhir/SearchValue$Alternative" "text" "Ljava/lang/String;" := slot_ne (Or.inr (hw _ (List.mem_of_getElem? (i := 67) rfl))) (Or.inr (hw _ (List.mem_of_getElem? (i := 45) rfl))) (by decide) pf_3 pf_3
theorem sn_com_example_operatory_operatory_fhir_SearchValue_Alternative_url__prefix {Z : State} {a0 : Array Value} (hw : ∀ d ∈ tables_1, d.before a0 Z = true) : Jvm.RoadKit.slotOf Z "com/example/operatory/operatory/fhir/SearchValue$Alternative" "url" "Ljava/lang/String;" ≠ Jvm.RoadKit.slotOf Z "com/example/operatory/operatory/fhir/SearchValue$Alternative" "prefix" "Lcom/example/operatory/operatory/fhir/SearchValue$Prefix;" := slot_ne (Or.inr (hw _ (List.mem_of_getElem? (i := 67) rfl))) (Or.inr (hw _ (List.mem_of_getElem? (i := 47) rfl))) (by decide) pf_3 pf_4
theorem sn_com_example_operatory_operatory_fhir_SearchValue_Alternative_url__number {Z : State} {a0 : Array Value} (hw : ∀ d ∈ tables_1, d.before a0 Z = true) : Jvm.RoadKit.slotOf Z "com/example/operatory/operatory/fhir/SearchValue$Alternative" "url" "Ljava/lang/String;" ≠ Jvm.RoadKit.slotOf Z "com/example/operatory/operatory/fhir/SearchValue$Alternative" "number" "Ljava/math/BigDecimal;" := slot_ne (Or.inr (hw _ (List.mem_of_getElem? (i := 67) rfl))) (Or.inr (hw _ (List.mem_of_getElem? (i := 49) rfl))) (by decide) pf_3 pf_5
theorem sn_com_example_operatory_operatory_fhir_SearchValue_Alternative_url__date {Z : State} {a0 : Array Value} (hw : ∀ d ∈ tables_1, d.before a0 Z = true) : Jvm.RoadKit.slotOf Z "com/example/operatory/operatory/fhir/SearchValue$Alternative" "url" "Ljava/lang/String;" ≠ Jvm.RoadKit.slotOf Z "com/example/operatory/operatory/fhir/SearchValue$Alternative" "date" "Ljava/lang/String;" := slot_ne (Or.inr (hw _ (List.mem_of_getElem? (i := 67) rfl))) (Or.inr (hw _ (List.mem_of_getElem? (i := 51) rfl))) (by decide) pf_3 pf_3
theorem sn_com_example_operatory_operatory_fhir_SearchValue_Alternative_url__precision {Z : State} {a0 : Array Value} (hw : ∀ d ∈ tables_1, d.before a0 Z = true) : Jvm.RoadKit.slotOf Z "com/example/operatory/operatory/fhir/SearchValue$Alternative" "url" "Ljava/lang/String;" ≠ Jvm.RoadKit.slotOf Z "com/example/operatory/operatory/fhir/SearchValue$Alternative" "precision" "Lcom/example/operatory/operatory/fhir/SearchValue$Precision;" := slot_ne (Or.inr (hw _ (List.mem_of_getElem? (i := 67) rfl))) (Or.inr (hw _ (List.mem_of_getElem? (i := 53) rfl))) (by decide) pf_3 pf_6
theorem sn_com_example_operatory_operatory_fhir_SearchValue_Alternative_url__system {Z : State} {a0 : Array Value} (hw : ∀ d ∈ tables_1, d.before a0 Z = true) : Jvm.RoadKit.slotOf Z "com/example/operatory/operatory/fhir/SearchValue$Alternative" "url" "Ljava/lang/String;" ≠ Jvm.RoadKit.slotOf Z "com/example/operatory/operatory/fhir/SearchValue$Alternative" "system" "Ljava/lang/String;" := slot_ne (Or.inr (hw _ (List.mem_of_getElem? (i := 67) rfl))) (Or.inr (hw _ (List.mem_of_getElem? (i := 55) rfl))) (by decide) pf_3 pf_3
theorem sn_com_example_operatory_operatory_fhir_SearchValue_Alternative_url__noSystem {Z : State} {a0 : Array Value} (hw : ∀ d ∈ tables_1, d.before a0 Z = true) : Jvm.RoadKit.slotOf Z "com/example/operatory/operatory/fhir/SearchValue$Alternative" "url" "Ljava/lang/String;" ≠ Jvm.RoadKit.slotOf Z "com/example/operatory/operatory/fhir/SearchValue$Alternative" "noSystem" "Z" := slot_ne (Or.inr (hw _ (List.mem_of_getElem? (i := 67) rfl))) (Or.inr (hw _ (List.mem_of_getElem? (i := 57) rfl))) (by decide) pf_3 pf_7
theorem sn_com_example_operatory_operatory_fhir_SearchValue_Alternative_url__code {Z : State} {a0 : Array Value} (hw : ∀ d ∈ tables_1, d.before a0 Z = true) : Jvm.RoadKit.slotOf Z "com/example/operatory/operatory/fhir/SearchValue$Alternative" "url" "Ljava/lang/String;" ≠ Jvm.RoadKit.slotOf Z "com/example/operatory/operatory/fhir/SearchValue$Alternative" "code" "Ljava/lang/String;" := slot_ne (Or.inr (hw _ (List.mem_of_getElem? (i := 67) rfl))) (Or.inr (hw _ (List.mem_of_getElem? (i := 59) rfl))) (by decide) pf_3 pf_3
theorem sn_com_example_operatory_operatory_fhir_SearchValue_Alternative_url__value {Z : State} {a0 : Array Value} (hw : ∀ d ∈ tables_1, d.before a0 Z = true) : Jvm.RoadKit.slotOf Z "com/example/operatory/operatory/fhir/SearchValue$Alternative" "url" "Ljava/lang/String;" ≠ Jvm.RoadKit.slotOf Z "com/example/operatory/operatory/fhir/SearchValue$Alternative" "value" "Ljava/lang/String;" := slot_ne (Or.inr (hw _ (List.mem_of_getElem? (i := 67) rfl))) (Or.inr (hw _ (List.mem_of_getElem? (i := 61) rfl))) (by decide) pf_3 pf_3
theorem sn_com_example_operatory_operatory_fhir_SearchValue_Alternative_url__type {Z : State} {a0 : Array Value} (hw : ∀ d ∈ tables_1, d.before a0 Z = true) : Jvm.RoadKit.slotOf Z "com/example/operatory/operatory/fhir/SearchValue$Alternative" "url" "Ljava/lang/String;" ≠ Jvm.RoadKit.slotOf Z "com/example/operatory/operatory/fhir/SearchValue$Alternative" "type" "Ljava/lang/String;" := slot_ne (Or.inr (hw _ (List.mem_of_getElem? (i := 67) rfl))) (Or.inr (hw _ (List.mem_of_getElem? (i := 63) rfl))) (by decide) pf_3 pf_3
theorem sn_com_example_operatory_operatory_fhir_SearchValue_Alternative_url__id {Z : State} {a0 : Array Value} (hw : ∀ d ∈ tables_1, d.before a0 Z = true) : Jvm.RoadKit.slotOf Z "com/example/operatory/operatory/fhir/SearchValue$Alternative" "url" "Ljava/lang/String;" ≠ Jvm.RoadKit.slotOf Z "com/example/operatory/operatory/fhir/SearchValue$Alternative" "id" "Ljava/lang/String;" := slot_ne (Or.inr (hw _ (List.mem_of_getElem? (i := 67) rfl))) (Or.inr (hw _ (List.mem_of_getElem? (i := 65) rfl))) (by decide) pf_3 pf_3
theorem d_prog_5_method_1_code_73 : decode prog_5_method_1_code 73 = .ok (.aload_n 0, 1) := by decide +kernel
theorem d_prog_5_method_1_code_74 : decode prog_5_method_1_code 74 = .ok (.aload 13, 2) := by decide +kernel
theorem d_prog_5_method_1_code_76 : decode prog_5_method_1_code 76 = .ok (.putfield 50, 3) := by decide +kernel
theorem pf_8 : parseFieldDescriptor "Ljava/lang/Boolean;" = some (.object "java/lang/Boolean") := by decide +kernel
theorem sn_com_example_operatory_operatory_fhir_SearchValue_Alternative_missing__text {Z : State} {a0 : Array Value} (hw : ∀ d ∈ tables_1, d.before a0 Z = true) : Jvm.RoadKit.slotOf Z "com/example/operatory/operatory/fhir/SearchValue$Alternative" "missing" "Ljava/lang/Boolean;" ≠ Jvm.RoadKit.slotOf Z "com/example/operatory/operatory/fhir/SearchValue$Alternative" "text" "Ljava/lang/String;" := slot_ne (Or.inr (hw _ (List.mem_of_getElem? (i := 69) rfl))) (Or.inr (hw _ (List.mem_of_getElem? (i := 45) rfl))) (by decide) pf_8 pf_3
theorem sn_com_example_operatory_operatory_fhir_SearchValue_Alternative_missing__prefix {Z : State} {a0 : Array Value} (hw : ∀ d ∈ tables_1, d.before a0 Z = true) : Jvm.RoadKit.slotOf Z "com/example/operatory/operatory/fhir/SearchValue$Alternative" "missing" "Ljava/lang/Boolean;" ≠ Jvm.RoadKit.slotOf Z "com/example/operatory/operatory/fhir/SearchValue$Alternative" "prefix" "Lcom/example/operatory/operatory/fhir/SearchValue$Prefix;" := slot_ne (Or.inr (hw _ (List.mem_of_getElem? (i := 69) rfl))) (Or.inr (hw _ (List.mem_of_getElem? (i := 47) rfl))) (by decide) pf_8 pf_4
theorem sn_com_example_operatory_operatory_fhir_SearchValue_Alternative_missing__number {Z : State} {a0 : Array Value} (hw : ∀ d ∈ tables_1, d.before a0 Z = true) : Jvm.RoadKit.slotOf Z "com/example/operatory/operatory/fhir/SearchValue$Alternative" "missing" "Ljava/lang/Boolean;" ≠ Jvm.RoadKit.slotOf Z "com/example/operatory/operatory/fhir/SearchValue$Alternative" "number" "Ljava/math/BigDecimal;" := slot_ne (Or.inr (hw _ (List.mem_of_getElem? (i := 69) rfl))) (Or.inr (hw _ (List.mem_of_getElem? (i := 49) rfl))) (by decide) pf_8 pf_5
theorem sn_com_example_operatory_operatory_fhir_SearchValue_Alternative_missing__date {Z : State} {a0 : Array Value} (hw : ∀ d ∈ tables_1, d.before a0 Z = true) : Jvm.RoadKit.slotOf Z "com/example/operatory/operatory/fhir/SearchValue$Alternative" "missing" "Ljava/lang/Boolean;" ≠ Jvm.RoadKit.slotOf Z "com/example/operatory/operatory/fhir/SearchValue$Alternative" "date" "Ljava/lang/String;" := slot_ne (Or.inr (hw _ (List.mem_of_getElem? (i := 69) rfl))) (Or.inr (hw _ (List.mem_of_getElem? (i := 51) rfl))) (by decide) pf_8 pf_3
theorem sn_com_example_operatory_operatory_fhir_SearchValue_Alternative_missing__precision {Z : State} {a0 : Array Value} (hw : ∀ d ∈ tables_1, d.before a0 Z = true) : Jvm.RoadKit.slotOf Z "com/example/operatory/operatory/fhir/SearchValue$Alternative" "missing" "Ljava/lang/Boolean;" ≠ Jvm.RoadKit.slotOf Z "com/example/operatory/operatory/fhir/SearchValue$Alternative" "precision" "Lcom/example/operatory/operatory/fhir/SearchValue$Precision;" := slot_ne (Or.inr (hw _ (List.mem_of_getElem? (i := 69) rfl))) (Or.inr (hw _ (List.mem_of_getElem? (i := 53) rfl))) (by decide) pf_8 pf_6
theorem sn_com_example_operatory_operatory_fhir_SearchValue_Alternative_missing__system {Z : State} {a0 : Array Value} (hw : ∀ d ∈ tables_1, d.before a0 Z = true) : Jvm.RoadKit.slotOf Z "com/example/operatory/operatory/fhir/SearchValue$Alternative" "missing" "Ljava/lang/Boolean;" ≠ Jvm.RoadKit.slotOf Z "com/example/operatory/operatory/fhir/SearchValue$Alternative" "system" "Ljava/lang/String;" := slot_ne (Or.inr (hw _ (List.mem_of_getElem? (i := 69) rfl))) (Or.inr (hw _ (List.mem_of_getElem? (i := 55) rfl))) (by decide) pf_8 pf_3
theorem sn_com_example_operatory_operatory_fhir_SearchValue_Alternative_missing__noSystem {Z : State} {a0 : Array Value} (hw : ∀ d ∈ tables_1, d.before a0 Z = true) : Jvm.RoadKit.slotOf Z "com/example/operatory/operatory/fhir/SearchValue$Alternative" "missing" "Ljava/lang/Boolean;" ≠ Jvm.RoadKit.slotOf Z "com/example/operatory/operatory/fhir/SearchValue$Alternative" "noSystem" "Z" := slot_ne (Or.inr (hw _ (List.mem_of_getElem? (i := 69) rfl))) (Or.inr (hw _ (List.mem_of_getElem? (i := 57) rfl))) (by decide) pf_8 pf_7
theorem sn_com_example_operatory_operatory_fhir_SearchValue_Alternative_missing__code {Z : State} {a0 : Array Value} (hw : ∀ d ∈ tables_1, d.before a0 Z = true) : Jvm.RoadKit.slotOf Z "com/example/operatory/operatory/fhir/SearchValue$Alternative" "missing" "Ljava/lang/Boolean;" ≠ Jvm.RoadKit.slotOf Z "com/example/operatory/operatory/fhir/SearchValue$Alternative" "code" "Ljava/lang/String;" := slot_ne (Or.inr (hw _ (List.mem_of_getElem? (i := 69) rfl))) (Or.inr (hw _ (List.mem_of_getElem? (i := 59) rfl))) (by decide) pf_8 pf_3
theorem sn_com_example_operatory_operatory_fhir_SearchValue_Alternative_missing__value {Z : State} {a0 : Array Value} (hw : ∀ d ∈ tables_1, d.before a0 Z = true) : Jvm.RoadKit.slotOf Z "com/example/operatory/operatory/fhir/SearchValue$Alternative" "missing" "Ljava/lang/Boolean;" ≠ Jvm.RoadKit.slotOf Z "com/example/operatory/operatory/fhir/SearchValue$Alternative" "value" "Ljava/lang/String;" := slot_ne (Or.inr (hw _ (List.mem_of_getElem? (i := 69) rfl))) (Or.inr (hw _ (List.mem_of_getElem? (i := 61) rfl))) (by decide) pf_8 pf_3
theorem sn_com_example_operatory_operatory_fhir_SearchValue_Alternative_missing__type {Z : State} {a0 : Array Value} (hw : ∀ d ∈ tables_1, d.before a0 Z = true) : Jvm.RoadKit.slotOf Z "com/example/operatory/operatory/fhir/SearchValue$Alternative" "missing" "Ljava/lang/Boolean;" ≠ Jvm.RoadKit.slotOf Z "com/example/operatory/operatory/fhir/SearchValue$Alternative" "type" "Ljava/lang/String;" := slot_ne (Or.inr (hw _ (List.mem_of_getElem? (i := 69) rfl))) (Or.inr (hw _ (List.mem_of_getElem? (i := 63) rfl))) (by decide) pf_8 pf_3
theorem sn_com_example_operatory_operatory_fhir_SearchValue_Alternative_missing__id {Z : State} {a0 : Array Value} (hw : ∀ d ∈ tables_1, d.before a0 Z = true) : Jvm.RoadKit.slotOf Z "com/example/operatory/operatory/fhir/SearchValue$Alternative" "missing" "Ljava/lang/Boolean;" ≠ Jvm.RoadKit.slotOf Z "com/example/operatory/operatory/fhir/SearchValue$Alternative" "id" "Ljava/lang/String;" := slot_ne (Or.inr (hw _ (List.mem_of_getElem? (i := 69) rfl))) (Or.inr (hw _ (List.mem_of_getElem? (i := 65) rfl))) (by decide) pf_8 pf_3
theorem sn_com_example_operatory_operatory_fhir_SearchValue_Alternative_missing__url {Z : State} {a0 : Array Value} (hw : ∀ d ∈ tables_1, d.before a0 Z = true) : Jvm.RoadKit.slotOf Z "com/example/operatory/operatory/fhir/SearchValue$Alternative" "missing" "Ljava/lang/Boolean;" ≠ Jvm.RoadKit.slotOf Z "com/example/operatory/operatory/fhir/SearchValue$Alternative" "url" "Ljava/lang/String;" := slot_ne (Or.inr (hw _ (List.mem_of_getElem? (i := 69) rfl))) (Or.inr (hw _ (List.mem_of_getElem? (i := 67) rfl))) (by decide) pf_8 pf_3
theorem d_prog_5_method_1_code_79 : decode prog_5_method_1_code 79 = .ok (.return_, 1) := by decide +kernel
theorem sn_com_example_operatory_operatory_fhir_SearchValue_Alternative_text__prefix {Z : State} {a0 : Array Value} (hw : ∀ d ∈ tables_1, d.before a0 Z = true) : Jvm.RoadKit.slotOf Z "com/example/operatory/operatory/fhir/SearchValue$Alternative" "text" "Ljava/lang/String;" ≠ Jvm.RoadKit.slotOf Z "com/example/operatory/operatory/fhir/SearchValue$Alternative" "prefix" "Lcom/example/operatory/operatory/fhir/SearchValue$Prefix;" := slot_ne (Or.inr (hw _ (List.mem_of_getElem? (i := 45) rfl))) (Or.inr (hw _ (List.mem_of_getElem? (i := 47) rfl))) (by decide) pf_3 pf_4
theorem sn_com_example_operatory_operatory_fhir_SearchValue_Alternative_text__number {Z : State} {a0 : Array Value} (hw : ∀ d ∈ tables_1, d.before a0 Z = true) : Jvm.RoadKit.slotOf Z "com/example/operatory/operatory/fhir/SearchValue$Alternative" "text" "Ljava/lang/String;" ≠ Jvm.RoadKit.slotOf Z "com/example/operatory/operatory/fhir/SearchValue$Alternative" "number" "Ljava/math/BigDecimal;" := slot_ne (Or.inr (hw _ (List.mem_of_getElem? (i := 45) rfl))) (Or.inr (hw _ (List.mem_of_getElem? (i := 49) rfl))) (by decide) pf_3 pf_5
theorem sn_com_example_operatory_operatory_fhir_SearchValue_Alternative_text__date {Z : State} {a0 : Array Value} (hw : ∀ d ∈ tables_1, d.before a0 Z = true) : Jvm.RoadKit.slotOf Z "com/example/operatory/operatory/fhir/SearchValue$Alternative" "text" "Ljava/lang/String;" ≠ Jvm.RoadKit.slotOf Z "com/example/operatory/operatory/fhir/SearchValue$Alternative" "date" "Ljava/lang/String;" := slot_ne (Or.inr (hw _ (List.mem_of_getElem? (i := 45) rfl))) (Or.inr (hw _ (List.mem_of_getElem? (i := 51) rfl))) (by decide) pf_3 pf_3
theorem sn_com_example_operatory_operatory_fhir_SearchValue_Alternative_text__precision {Z : State} {a0 : Array Value} (hw : ∀ d ∈ tables_1, d.before a0 Z = true) : Jvm.RoadKit.slotOf Z "com/example/operatory/operatory/fhir/SearchValue$Alternative" "text" "Ljava/lang/String;" ≠ Jvm.RoadKit.slotOf Z "com/example/operatory/operatory/fhir/SearchValue$Alternative" "precision" "Lcom/example/operatory/operatory/fhir/SearchValue$Precision;" := slot_ne (Or.inr (hw _ (List.mem_of_getElem? (i := 45) rfl))) (Or.inr (hw _ (List.mem_of_getElem? (i := 53) rfl))) (by decide) pf_3 pf_6
theorem sn_com_example_operatory_operatory_fhir_SearchValue_Alternative_text__system {Z : State} {a0 : Array Value} (hw : ∀ d ∈ tables_1, d.before a0 Z = true) : Jvm.RoadKit.slotOf Z "com/example/operatory/operatory/fhir/SearchValue$Alternative" "text" "Ljava/lang/String;" ≠ Jvm.RoadKit.slotOf Z "com/example/operatory/operatory/fhir/SearchValue$Alternative" "system" "Ljava/lang/String;" := slot_ne (Or.inr (hw _ (List.mem_of_getElem? (i := 45) rfl))) (Or.inr (hw _ (List.mem_of_getElem? (i := 55) rfl))) (by decide) pf_3 pf_3
theorem sn_com_example_operatory_operatory_fhir_SearchValue_Alternative_text__noSystem {Z : State} {a0 : Array Value} (hw : ∀ d ∈ tables_1, d.before a0 Z = true) : Jvm.RoadKit.slotOf Z "com/example/operatory/operatory/fhir/SearchValue$Alternative" "text" "Ljava/lang/String;" ≠ Jvm.RoadKit.slotOf Z "com/example/operatory/operatory/fhir/SearchValue$Alternative" "noSystem" "Z" := slot_ne (Or.inr (hw _ (List.mem_of_getElem? (i := 45) rfl))) (Or.inr (hw _ (List.mem_of_getElem? (i := 57) rfl))) (by decide) pf_3 pf_7
theorem sn_com_example_operatory_operatory_fhir_SearchValue_Alternative_text__code {Z : State} {a0 : Array Value} (hw : ∀ d ∈ tables_1, d.before a0 Z = true) : Jvm.RoadKit.slotOf Z "com/example/operatory/operatory/fhir/SearchValue$Alternative" "text" "Ljava/lang/String;" ≠ Jvm.RoadKit.slotOf Z "com/example/operatory/operatory/fhir/SearchValue$Alternative" "code" "Ljava/lang/String;" := slot_ne (Or.inr (hw _ (List.mem_of_getElem? (i := 45) rfl))) (Or.inr (hw _ (List.mem_of_getElem? (i := 59) rfl))) (by decide) pf_3 pf_3
theorem sn_com_example_operatory_operatory_fhir_SearchValue_Alternative_text__value {Z : State} {a0 : Array Value} (hw : ∀ d ∈ tables_1, d.before a0 Z = true) : Jvm.RoadKit.slotOf Z "com/example/operatory/operatory/fhir/SearchValue$Alternative" "text" "Ljava/lang/String;" ≠ Jvm.RoadKit.slotOf Z "com/example/operatory/operatory/fhir/SearchValue$Alternative" "value" "Ljava/lang/String;" := slot_ne (Or.inr (hw _ (List.mem_of_getElem? (i := 45) rfl))) (Or.inr (hw _ (List.mem_of_getElem? (i := 61) rfl))) (by decide) pf_3 pf_3
theorem sn_com_example_operatory_operatory_fhir_SearchValue_Alternative_text__type {Z : State} {a0 : Array Value} (hw : ∀ d ∈ tables_1, d.before a0 Z = true) : Jvm.RoadKit.slotOf Z "com/example/operatory/operatory/fhir/SearchValue$Alternative" "text" "Ljava/lang/String;" ≠ Jvm.RoadKit.slotOf Z "com/example/operatory/operatory/fhir/SearchValue$Alternative" "type" "Ljava/lang/String;" := slot_ne (Or.inr (hw _ (List.mem_of_getElem? (i := 45) rfl))) (Or.inr (hw _ (List.mem_of_getElem? (i := 63) rfl))) (by decide) pf_3 pf_3
theorem sn_com_example_operatory_operatory_fhir_SearchValue_Alternative_text__id {Z : State} {a0 : Array Value} (hw : ∀ d ∈ tables_1, d.before a0 Z = true) : Jvm.RoadKit.slotOf Z "com/example/operatory/operatory/fhir/SearchValue$Alternative" "text" "Ljava/lang/String;" ≠ Jvm.RoadKit.slotOf Z "com/example/operatory/operatory/fhir/SearchValue$Alternative" "id" "Ljava/lang/String;" := slot_ne (Or.inr (hw _ (List.mem_of_getElem? (i := 45) rfl))) (Or.inr (hw _ (List.mem_of_getElem? (i := 65) rfl))) (by decide) pf_3 pf_3
theorem sn_com_example_operatory_operatory_fhir_SearchValue_Alternative_text__url {Z : State} {a0 : Array Value} (hw : ∀ d ∈ tables_1, d.before a0 Z = true) : Jvm.RoadKit.slotOf Z "com/example/operatory/operatory/fhir/SearchValue$Alternative" "text" "Ljava/lang/String;" ≠ Jvm.RoadKit.slotOf Z "com/example/operatory/operatory/fhir/SearchValue$Alternative" "url" "Ljava/lang/String;" := slot_ne (Or.inr (hw _ (List.mem_of_getElem? (i := 45) rfl))) (Or.inr (hw _ (List.mem_of_getElem? (i := 67) rfl))) (by decide) pf_3 pf_3
theorem sn_com_example_operatory_operatory_fhir_SearchValue_Alternative_text__missing {Z : State} {a0 : Array Value} (hw : ∀ d ∈ tables_1, d.before a0 Z = true) : Jvm.RoadKit.slotOf Z "com/example/operatory/operatory/fhir/SearchValue$Alternative" "text" "Ljava/lang/String;" ≠ Jvm.RoadKit.slotOf Z "com/example/operatory/operatory/fhir/SearchValue$Alternative" "missing" "Ljava/lang/Boolean;" := slot_ne (Or.inr (hw _ (List.mem_of_getElem? (i := 45) rfl))) (Or.inr (hw _ (List.mem_of_getElem? (i := 69) rfl))) (by decide) pf_3 pf_8
theorem sn_com_example_operatory_operatory_fhir_SearchValue_Alternative_prefix__number {Z : State} {a0 : Array Value} (hw : ∀ d ∈ tables_1, d.before a0 Z = true) : Jvm.RoadKit.slotOf Z "com/example/operatory/operatory/fhir/SearchValue$Alternative" "prefix" "Lcom/example/operatory/operatory/fhir/SearchValue$Prefix;" ≠ Jvm.RoadKit.slotOf Z "com/example/operatory/operatory/fhir/SearchValue$Alternative" "number" "Ljava/math/BigDecimal;" := slot_ne (Or.inr (hw _ (List.mem_of_getElem? (i := 47) rfl))) (Or.inr (hw _ (List.mem_of_getElem? (i := 49) rfl))) (by decide) pf_4 pf_5
theorem sn_com_example_operatory_operatory_fhir_SearchValue_Alternative_prefix__date {Z : State} {a0 : Array Value} (hw : ∀ d ∈ tables_1, d.before a0 Z = true) : Jvm.RoadKit.slotOf Z "com/example/operatory/operatory/fhir/SearchValue$Alternative" "prefix" "Lcom/example/operatory/operatory/fhir/SearchValue$Prefix;" ≠ Jvm.RoadKit.slotOf Z "com/example/operatory/operatory/fhir/SearchValue$Alternative" "date" "Ljava/lang/String;" := slot_ne (Or.inr (hw _ (List.mem_of_getElem? (i := 47) rfl))) (Or.inr (hw _ (List.mem_of_getElem? (i := 51) rfl))) (by decide) pf_4 pf_3
theorem sn_com_example_operatory_operatory_fhir_SearchValue_Alternative_prefix__precision {Z : State} {a0 : Array Value} (hw : ∀ d ∈ tables_1, d.before a0 Z = true) : Jvm.RoadKit.slotOf Z "com/example/operatory/operatory/fhir/SearchValue$Alternative" "prefix" "Lcom/example/operatory/operatory/fhir/SearchValue$Prefix;" ≠ Jvm.RoadKit.slotOf Z "com/example/operatory/operatory/fhir/SearchValue$Alternative" "precision" "Lcom/example/operatory/operatory/fhir/SearchValue$Precision;" := slot_ne (Or.inr (hw _ (List.mem_of_getElem? (i := 47) rfl))) (Or.inr (hw _ (List.mem_of_getElem? (i := 53) rfl))) (by decide) pf_4 pf_6
theorem sn_com_example_operatory_operatory_fhir_SearchValue_Alternative_prefix__system {Z : State} {a0 : Array Value} (hw : ∀ d ∈ tables_1, d.before a0 Z = true) : Jvm.RoadKit.slotOf Z "com/example/operatory/operatory/fhir/SearchValue$Alternative" "prefix" "Lcom/example/operatory/operatory/fhir/SearchValue$Prefix;" ≠ Jvm.RoadKit.slotOf Z "com/example/operatory/operatory/fhir/SearchValue$Alternative" "system" "Ljava/lang/String;" := slot_ne (Or.inr (hw _ (List.mem_of_getElem? (i := 47) rfl))) (Or.inr (hw _ (List.mem_of_getElem? (i := 55) rfl))) (by decide) pf_4 pf_3
theorem sn_com_example_operatory_operatory_fhir_SearchValue_Alternative_prefix__noSystem {Z : State} {a0 : Array Value} (hw : ∀ d ∈ tables_1, d.before a0 Z = true) : Jvm.RoadKit.slotOf Z "com/example/operatory/operatory/fhir/SearchValue$Alternative" "prefix" "Lcom/example/operatory/operatory/fhir/SearchValue$Prefix;" ≠ Jvm.RoadKit.slotOf Z "com/example/operatory/operatory/fhir/SearchValue$Alternative" "noSystem" "Z" := slot_ne (Or.inr (hw _ (List.mem_of_getElem? (i := 47) rfl))) (Or.inr (hw _ (List.mem_of_getElem? (i := 57) rfl))) (by decide) pf_4 pf_7
theorem sn_com_example_operatory_operatory_fhir_SearchValue_Alternative_prefix__code {Z : State} {a0 : Array Value} (hw : ∀ d ∈ tables_1, d.before a0 Z = true) : Jvm.RoadKit.slotOf Z "com/example/operatory/operatory/fhir/SearchValue$Alternative" "prefix" "Lcom/example/operatory/operatory/fhir/SearchValue$Prefix;" ≠ Jvm.RoadKit.slotOf Z "com/example/operatory/operatory/fhir/SearchValue$Alternative" "code" "Ljava/lang/String;" := slot_ne (Or.inr (hw _ (List.mem_of_getElem? (i := 47) rfl))) (Or.inr (hw _ (List.mem_of_getElem? (i := 59) rfl))) (by decide) pf_4 pf_3
theorem sn_com_example_operatory_operatory_fhir_SearchValue_Alternative_prefix__value {Z : State} {a0 : Array Value} (hw : ∀ d ∈ tables_1, d.before a0 Z = true) : Jvm.RoadKit.slotOf Z "com/example/operatory/operatory/fhir/SearchValue$Alternative" "prefix" "Lcom/example/operatory/operatory/fhir/SearchValue$Prefix;" ≠ Jvm.RoadKit.slotOf Z "com/example/operatory/operatory/fhir/SearchValue$Alternative" "value" "Ljava/lang/String;" := slot_ne (Or.inr (hw _ (List.mem_of_getElem? (i := 47) rfl))) (Or.inr (hw _ (List.mem_of_getElem? (i := 61) rfl))) (by decide) pf_4 pf_3
theorem sn_com_example_operatory_operatory_fhir_SearchValue_Alternative_prefix__type {Z : State} {a0 : Array Value} (hw : ∀ d ∈ tables_1, d.before a0 Z = true) : Jvm.RoadKit.slotOf Z "com/example/operatory/operatory/fhir/SearchValue$Alternative" "prefix" "Lcom/example/operatory/operatory/fhir/SearchValue$Prefix;" ≠ Jvm.RoadKit.slotOf Z "com/example/operatory/operatory/fhir/SearchValue$Alternative" "type" "Ljava/lang/String;" := slot_ne (Or.inr (hw _ (List.mem_of_getElem? (i := 47) rfl))) (Or.inr (hw _ (List.mem_of_getElem? (i := 63) rfl))) (by decide) pf_4 pf_3
theorem sn_com_example_operatory_operatory_fhir_SearchValue_Alternative_prefix__id {Z : State} {a0 : Array Value} (hw : ∀ d ∈ tables_1, d.before a0 Z = true) : Jvm.RoadKit.slotOf Z "com/example/operatory/operatory/fhir/SearchValue$Alternative" "prefix" "Lcom/example/operatory/operatory/fhir/SearchValue$Prefix;" ≠ Jvm.RoadKit.slotOf Z "com/example/operatory/operatory/fhir/SearchValue$Alternative" "id" "Ljava/lang/String;" := slot_ne (Or.inr (hw _ (List.mem_of_getElem? (i := 47) rfl))) (Or.inr (hw _ (List.mem_of_getElem? (i := 65) rfl))) (by decide) pf_4 pf_3
theorem sn_com_example_operatory_operatory_fhir_SearchValue_Alternative_prefix__url {Z : State} {a0 : Array Value} (hw : ∀ d ∈ tables_1, d.before a0 Z = true) : Jvm.RoadKit.slotOf Z "com/example/operatory/operatory/fhir/SearchValue$Alternative" "prefix" "Lcom/example/operatory/operatory/fhir/SearchValue$Prefix;" ≠ Jvm.RoadKit.slotOf Z "com/example/operatory/operatory/fhir/SearchValue$Alternative" "url" "Ljava/lang/String;" := slot_ne (Or.inr (hw _ (List.mem_of_getElem? (i := 47) rfl))) (Or.inr (hw _ (List.mem_of_getElem? (i := 67) rfl))) (by decide) pf_4 pf_3
theorem sn_com_example_operatory_operatory_fhir_SearchValue_Alternative_prefix__missing {Z : State} {a0 : Array Value} (hw : ∀ d ∈ tables_1, d.before a0 Z = true) : Jvm.RoadKit.slotOf Z "com/example/operatory/operatory/fhir/SearchValue$Alternative" "prefix" "Lcom/example/operatory/operatory/fhir/SearchValue$Prefix;" ≠ Jvm.RoadKit.slotOf Z "com/example/operatory/operatory/fhir/SearchValue$Alternative" "missing" "Ljava/lang/Boolean;" := slot_ne (Or.inr (hw _ (List.mem_of_getElem? (i := 47) rfl))) (Or.inr (hw _ (List.mem_of_getElem? (i := 69) rfl))) (by decide) pf_4 pf_8
theorem sn_com_example_operatory_operatory_fhir_SearchValue_Alternative_number__date {Z : State} {a0 : Array Value} (hw : ∀ d ∈ tables_1, d.before a0 Z = true) : Jvm.RoadKit.slotOf Z "com/example/operatory/operatory/fhir/SearchValue$Alternative" "number" "Ljava/math/BigDecimal;" ≠ Jvm.RoadKit.slotOf Z "com/example/operatory/operatory/fhir/SearchValue$Alternative" "date" "Ljava/lang/String;" := slot_ne (Or.inr (hw _ (List.mem_of_getElem? (i := 49) rfl))) (Or.inr (hw _ (List.mem_of_getElem? (i := 51) rfl))) (by decide) pf_5 pf_3
theorem sn_com_example_operatory_operatory_fhir_SearchValue_Alternative_number__precision {Z : State} {a0 : Array Value} (hw : ∀ d ∈ tables_1, d.before a0 Z = true) : Jvm.RoadKit.slotOf Z "com/example/operatory/operatory/fhir/SearchValue$Alternative" "number" "Ljava/math/BigDecimal;" ≠ Jvm.RoadKit.slotOf Z "com/example/operatory/operatory/fhir/SearchValue$Alternative" "precision" "Lcom/example/operatory/operatory/fhir/SearchValue$Precision;" := slot_ne (Or.inr (hw _ (List.mem_of_getElem? (i := 49) rfl))) (Or.inr (hw _ (List.mem_of_getElem? (i := 53) rfl))) (by decide) pf_5 pf_6
theorem sn_com_example_operatory_operatory_fhir_SearchValue_Alternative_number__system {Z : State} {a0 : Array Value} (hw : ∀ d ∈ tables_1, d.before a0 Z = true) : Jvm.RoadKit.slotOf Z "com/example/operatory/operatory/fhir/SearchValue$Alternative" "number" "Ljava/math/BigDecimal;" ≠ Jvm.RoadKit.slotOf Z "com/example/operatory/operatory/fhir/SearchValue$Alternative" "system" "Ljava/lang/String;" := slot_ne (Or.inr (hw _ (List.mem_of_getElem? (i := 49) rfl))) (Or.inr (hw _ (List.mem_of_getElem? (i := 55) rfl))) (by decide) pf_5 pf_3
theorem sn_com_example_operatory_operatory_fhir_SearchValue_Alternative_number__noSystem {Z : State} {a0 : Array Value} (hw : ∀ d ∈ tables_1, d.before a0 Z = true) : Jvm.RoadKit.slotOf Z "com/example/operatory/operatory/fhir/SearchValue$Alternative" "number" "Ljava/math/BigDecimal;" ≠ Jvm.RoadKit.slotOf Z "com/example/operatory/operatory/fhir/SearchValue$Alternative" "noSystem" "Z" := slot_ne (Or.inr (hw _ (List.mem_of_getElem? (i := 49) rfl))) (Or.inr (hw _ (List.mem_of_getElem? (i := 57) rfl))) (by decide) pf_5 pf_7
theorem sn_com_example_operatory_operatory_fhir_SearchValue_Alternative_number__code {Z : State} {a0 : Array Value} (hw : ∀ d ∈ tables_1, d.before a0 Z = true) : Jvm.RoadKit.slotOf Z "com/example/operatory/operatory/fhir/SearchValue$Alternative" "number" "Ljava/math/BigDecimal;" ≠ Jvm.RoadKit.slotOf Z "com/example/operatory/operatory/fhir/SearchValue$Alternative" "code" "Ljava/lang/String;" := slot_ne (Or.inr (hw _ (List.mem_of_getElem? (i := 49) rfl))) (Or.inr (hw _ (List.mem_of_getElem? (i := 59) rfl))) (by decide) pf_5 pf_3
theorem sn_com_example_operatory_operatory_fhir_SearchValue_Alternative_number__value {Z : State} {a0 : Array Value} (hw : ∀ d ∈ tables_1, d.before a0 Z = true) : Jvm.RoadKit.slotOf Z "com/example/operatory/operatory/fhir/SearchValue$Alternative" "number" "Ljava/math/BigDecimal;" ≠ Jvm.RoadKit.slotOf Z "com/example/operatory/operatory/fhir/SearchValue$Alternative" "value" "Ljava/lang/String;" := slot_ne (Or.inr (hw _ (List.mem_of_getElem? (i := 49) rfl))) (Or.inr (hw _ (List.mem_of_getElem? (i := 61) rfl))) (by decide) pf_5 pf_3
theorem sn_com_example_operatory_operatory_fhir_SearchValue_Alternative_number__type {Z : State} {a0 : Array Value} (hw : ∀ d ∈ tables_1, d.before a0 Z = true) : Jvm.RoadKit.slotOf Z "com/example/operatory/operatory/fhir/SearchValue$Alternative" "number" "Ljava/math/BigDecimal;" ≠ Jvm.RoadKit.slotOf Z "com/example/operatory/operatory/fhir/SearchValue$Alternative" "type" "Ljava/lang/String;" := slot_ne (Or.inr (hw _ (List.mem_of_getElem? (i := 49) rfl))) (Or.inr (hw _ (List.mem_of_getElem? (i := 63) rfl))) (by decide) pf_5 pf_3
theorem sn_com_example_operatory_operatory_fhir_SearchValue_Alternative_number__id {Z : State} {a0 : Array Value} (hw : ∀ d ∈ tables_1, d.before a0 Z = true) : Jvm.RoadKit.slotOf Z "com/example/operatory/operatory/fhir/SearchValue$Alternative" "number" "Ljava/math/BigDecimal;" ≠ Jvm.RoadKit.slotOf Z "com/example/operatory/operatory/fhir/SearchValue$Alternative" "id" "Ljava/lang/String;" := slot_ne (Or.inr (hw _ (List.mem_of_getElem? (i := 49) rfl))) (Or.inr (hw _ (List.mem_of_getElem? (i := 65) rfl))) (by decide) pf_5 pf_3
theorem sn_com_example_operatory_operatory_fhir_SearchValue_Alternative_number__url {Z : State} {a0 : Array Value} (hw : ∀ d ∈ tables_1, d.before a0 Z = true) : Jvm.RoadKit.slotOf Z "com/example/operatory/operatory/fhir/SearchValue$Alternative" "number" "Ljava/math/BigDecimal;" ≠ Jvm.RoadKit.slotOf Z "com/example/operatory/operatory/fhir/SearchValue$Alternative" "url" "Ljava/lang/String;" := slot_ne (Or.inr (hw _ (List.mem_of_getElem? (i := 49) rfl))) (Or.inr (hw _ (List.mem_of_getElem? (i := 67) rfl))) (by decide) pf_5 pf_3
theorem sn_com_example_operatory_operatory_fhir_SearchValue_Alternative_number__missing {Z : State} {a0 : Array Value} (hw : ∀ d ∈ tables_1, d.before a0 Z = true) : Jvm.RoadKit.slotOf Z "com/example/operatory/operatory/fhir/SearchValue$Alternative" "number" "Ljava/math/BigDecimal;" ≠ Jvm.RoadKit.slotOf Z "com/example/operatory/operatory/fhir/SearchValue$Alternative" "missing" "Ljava/lang/Boolean;" := slot_ne (Or.inr (hw _ (List.mem_of_getElem? (i := 49) rfl))) (Or.inr (hw _ (List.mem_of_getElem? (i := 69) rfl))) (by decide) pf_5 pf_8
theorem sn_com_example_operatory_operatory_fhir_SearchValue_Alternative_date__precision {Z : State} {a0 : Array Value} (hw : ∀ d ∈ tables_1, d.before a0 Z = true) : Jvm.RoadKit.slotOf Z "com/example/operatory/operatory/fhir/SearchValue$Alternative" "date" "Ljava/lang/String;" ≠ Jvm.RoadKit.slotOf Z "com/example/operatory/operatory/fhir/SearchValue$Alternative" "precision" "Lcom/example/operatory/operatory/fhir/SearchValue$Precision;" := slot_ne (Or.inr (hw _ (List.mem_of_getElem? (i := 51) rfl))) (Or.inr (hw _ (List.mem_of_getElem? (i := 53) rfl))) (by decide) pf_3 pf_6
theorem sn_com_example_operatory_operatory_fhir_SearchValue_Alternative_date__system {Z : State} {a0 : Array Value} (hw : ∀ d ∈ tables_1, d.before a0 Z = true) : Jvm.RoadKit.slotOf Z "com/example/operatory/operatory/fhir/SearchValue$Alternative" "date" "Ljava/lang/String;" ≠ Jvm.RoadKit.slotOf Z "com/example/operatory/operatory/fhir/SearchValue$Alternative" "system" "Ljava/lang/String;" := slot_ne (Or.inr (hw _ (List.mem_of_getElem? (i := 51) rfl))) (Or.inr (hw _ (List.mem_of_getElem? (i := 55) rfl))) (by decide) pf_3 pf_3
theorem sn_com_example_operatory_operatory_fhir_SearchValue_Alternative_date__noSystem {Z : State} {a0 : Array Value} (hw : ∀ d ∈ tables_1, d.before a0 Z = true) : Jvm.RoadKit.slotOf Z "com/example/operatory/operatory/fhir/SearchValue$Alternative" "date" "Ljava/lang/String;" ≠ Jvm.RoadKit.slotOf Z "com/example/operatory/operatory/fhir/SearchValue$Alternative" "noSystem" "Z" := slot_ne (Or.inr (hw _ (List.mem_of_getElem? (i := 51) rfl))) (Or.inr (hw _ (List.mem_of_getElem? (i := 57) rfl))) (by decide) pf_3 pf_7
theorem sn_com_example_operatory_operatory_fhir_SearchValue_Alternative_date__code {Z : State} {a0 : Array Value} (hw : ∀ d ∈ tables_1, d.before a0 Z = true) : Jvm.RoadKit.slotOf Z "com/example/operatory/operatory/fhir/SearchValue$Alternative" "date" "Ljava/lang/String;" ≠ Jvm.RoadKit.slotOf Z "com/example/operatory/operatory/fhir/SearchValue$Alternative" "code" "Ljava/lang/String;" := slot_ne (Or.inr (hw _ (List.mem_of_getElem? (i := 51) rfl))) (Or.inr (hw _ (List.mem_of_getElem? (i := 59) rfl))) (by decide) pf_3 pf_3
theorem sn_com_example_operatory_operatory_fhir_SearchValue_Alternative_date__value {Z : State} {a0 : Array Value} (hw : ∀ d ∈ tables_1, d.before a0 Z = true) : Jvm.RoadKit.slotOf Z "com/example/operatory/operatory/fhir/SearchValue$Alternative" "date" "Ljava/lang/String;" ≠ Jvm.RoadKit.slotOf Z "com/example/operatory/operatory/fhir/SearchValue$Alternative" "value" "Ljava/lang/String;" := slot_ne (Or.inr (hw _ (List.mem_of_getElem? (i := 51) rfl))) (Or.inr (hw _ (List.mem_of_getElem? (i := 61) rfl))) (by decide) pf_3 pf_3
theorem sn_com_example_operatory_operatory_fhir_SearchValue_Alternative_date__type {Z : State} {a0 : Array Value} (hw : ∀ d ∈ tables_1, d.before a0 Z = true) : Jvm.RoadKit.slotOf Z "com/example/operatory/operatory/fhir/SearchValue$Alternative" "date" "Ljava/lang/String;" ≠ Jvm.RoadKit.slotOf Z "com/example/operatory/operatory/fhir/SearchValue$Alternative" "type" "Ljava/lang/String;" := slot_ne (Or.inr (hw _ (List.mem_of_getElem? (i := 51) rfl))) (Or.inr (hw _ (List.mem_of_getElem? (i := 63) rfl))) (by decide) pf_3 pf_3
theorem sn_com_example_operatory_operatory_fhir_SearchValue_Alternative_date__id {Z : State} {a0 : Array Value} (hw : ∀ d ∈ tables_1, d.before a0 Z = true) : Jvm.RoadKit.slotOf Z "com/example/operatory/operatory/fhir/SearchValue$Alternative" "date" "Ljava/lang/String;" ≠ Jvm.RoadKit.slotOf Z "com/example/operatory/operatory/fhir/SearchValue$Alternative" "id" "Ljava/lang/String;" := slot_ne (Or.inr (hw _ (List.mem_of_getElem? (i := 51) rfl))) (Or.inr (hw _ (List.mem_of_getElem? (i := 65) rfl))) (by decide) pf_3 pf_3
theorem sn_com_example_operatory_operatory_fhir_SearchValue_Alternative_date__url {Z : State} {a0 : Array Value} (hw : ∀ d ∈ tables_1, d.before a0 Z = true) : Jvm.RoadKit.slotOf Z "com/example/operatory/operatory/fhir/SearchValue$Alternative" "date" "Ljava/lang/String;" ≠ Jvm.RoadKit.slotOf Z "com/example/operatory/operatory/fhir/SearchValue$Alternative" "url" "Ljava/lang/String;" := slot_ne (Or.inr (hw _ (List.mem_of_getElem? (i := 51) rfl))) (Or.inr (hw _ (List.mem_of_getElem? (i := 67) rfl))) (by decide) pf_3 pf_3
theorem sn_com_example_operatory_operatory_fhir_SearchValue_Alternative_date__missing {Z : State} {a0 : Array Value} (hw : ∀ d ∈ tables_1, d.before a0 Z = true) : Jvm.RoadKit.slotOf Z "com/example/operatory/operatory/fhir/SearchValue$Alternative" "date" "Ljava/lang/String;" ≠ Jvm.RoadKit.slotOf Z "com/example/operatory/operatory/fhir/SearchValue$Alternative" "missing" "Ljava/lang/Boolean;" := slot_ne (Or.inr (hw _ (List.mem_of_getElem? (i := 51) rfl))) (Or.inr (hw _ (List.mem_of_getElem? (i := 69) rfl))) (by decide) pf_3 pf_8
theorem sn_com_example_operatory_operatory_fhir_SearchValue_Alternative_precision__system {Z : State} {a0 : Array Value} (hw : ∀ d ∈ tables_1, d.before a0 Z = true) : Jvm.RoadKit.slotOf Z "com/example/operatory/operatory/fhir/SearchValue$Alternative" "precision" "Lcom/example/operatory/operatory/fhir/SearchValue$Precision;" ≠ Jvm.RoadKit.slotOf Z "com/example/operatory/operatory/fhir/SearchValue$Alternative" "system" "Ljava/lang/String;" := slot_ne (Or.inr (hw _ (List.mem_of_getElem? (i := 53) rfl))) (Or.inr (hw _ (List.mem_of_getElem? (i := 55) rfl))) (by decide) pf_6 pf_3
theorem sn_com_example_operatory_operatory_fhir_SearchValue_Alternative_precision__noSystem {Z : State} {a0 : Array Value} (hw : ∀ d ∈ tables_1, d.before a0 Z = true) : Jvm.RoadKit.slotOf Z "com/example/operatory/operatory/fhir/SearchValue$Alternative" "precision" "Lcom/example/operatory/operatory/fhir/SearchValue$Precision;" ≠ Jvm.RoadKit.slotOf Z "com/example/operatory/operatory/fhir/SearchValue$Alternative" "noSystem" "Z" := slot_ne (Or.inr (hw _ (List.mem_of_getElem? (i := 53) rfl))) (Or.inr (hw _ (List.mem_of_getElem? (i := 57) rfl))) (by decide) pf_6 pf_7
theorem sn_com_example_operatory_operatory_fhir_SearchValue_Alternative_precision__code {Z : State} {a0 : Array Value} (hw : ∀ d ∈ tables_1, d.before a0 Z = true) : Jvm.RoadKit.slotOf Z "com/example/operatory/operatory/fhir/SearchValue$Alternative" "precision" "Lcom/example/operatory/operatory/fhir/SearchValue$Precision;" ≠ Jvm.RoadKit.slotOf Z "com/example/operatory/operatory/fhir/SearchValue$Alternative" "code" "Ljava/lang/String;" := slot_ne (Or.inr (hw _ (List.mem_of_getElem? (i := 53) rfl))) (Or.inr (hw _ (List.mem_of_getElem? (i := 59) rfl))) (by decide) pf_6 pf_3
theorem sn_com_example_operatory_operatory_fhir_SearchValue_Alternative_precision__value {Z : State} {a0 : Array Value} (hw : ∀ d ∈ tables_1, d.before a0 Z = true) : Jvm.RoadKit.slotOf Z "com/example/operatory/operatory/fhir/SearchValue$Alternative" "precision" "Lcom/example/operatory/operatory/fhir/SearchValue$Precision;" ≠ Jvm.RoadKit.slotOf Z "com/example/operatory/operatory/fhir/SearchValue$Alternative" "value" "Ljava/lang/String;" := slot_ne (Or.inr (hw _ (List.mem_of_getElem? (i := 53) rfl))) (Or.inr (hw _ (List.mem_of_getElem? (i := 61) rfl))) (by decide) pf_6 pf_3
theorem sn_com_example_operatory_operatory_fhir_SearchValue_Alternative_precision__type {Z : State} {a0 : Array Value} (hw : ∀ d ∈ tables_1, d.before a0 Z = true) : Jvm.RoadKit.slotOf Z "com/example/operatory/operatory/fhir/SearchValue$Alternative" "precision" "Lcom/example/operatory/operatory/fhir/SearchValue$Precision;" ≠ Jvm.RoadKit.slotOf Z "com/example/operatory/operatory/fhir/SearchValue$Alternative" "type" "Ljava/lang/String;" := slot_ne (Or.inr (hw _ (List.mem_of_getElem? (i := 53) rfl))) (Or.inr (hw _ (List.mem_of_getElem? (i := 63) rfl))) (by decide) pf_6 pf_3
theorem sn_com_example_operatory_operatory_fhir_SearchValue_Alternative_precision__id {Z : State} {a0 : Array Value} (hw : ∀ d ∈ tables_1, d.before a0 Z = true) : Jvm.RoadKit.slotOf Z "com/example/operatory/operatory/fhir/SearchValue$Alternative" "precision" "Lcom/example/operatory/operatory/fhir/SearchValue$Precision;" ≠ Jvm.RoadKit.slotOf Z "com/example/operatory/operatory/fhir/SearchValue$Alternative" "id" "Ljava/lang/String;" := slot_ne (Or.inr (hw _ (List.mem_of_getElem? (i := 53) rfl))) (Or.inr (hw _ (List.mem_of_getElem? (i := 65) rfl))) (by decide) pf_6 pf_3
theorem sn_com_example_operatory_operatory_fhir_SearchValue_Alternative_precision__url {Z : State} {a0 : Array Value} (hw : ∀ d ∈ tables_1, d.before a0 Z = true) : Jvm.RoadKit.slotOf Z "com/example/operatory/operatory/fhir/SearchValue$Alternative" "precision" "Lcom/example/operatory/operatory/fhir/SearchValue$Precision;" ≠ Jvm.RoadKit.slotOf Z "com/example/operatory/operatory/fhir/SearchValue$Alternative" "url" "Ljava/lang/String;" := slot_ne (Or.inr (hw _ (List.mem_of_getElem? (i := 53) rfl))) (Or.inr (hw _ (List.mem_of_getElem? (i := 67) rfl))) (by decide) pf_6 pf_3
theorem sn_com_example_operatory_operatory_fhir_SearchValue_Alternative_precision__missing {Z : State} {a0 : Array Value} (hw : ∀ d ∈ tables_1, d.before a0 Z = true) : Jvm.RoadKit.slotOf Z "com/example/operatory/operatory/fhir/SearchValue$Alternative" "precision" "Lcom/example/operatory/operatory/fhir/SearchValue$Precision;" ≠ Jvm.RoadKit.slotOf Z "com/example/operatory/operatory/fhir/SearchValue$Alternative" "missing" "Ljava/lang/Boolean;" := slot_ne (Or.inr (hw _ (List.mem_of_getElem? (i := 53) rfl))) (Or.inr (hw _ (List.mem_of_getElem? (i := 69) rfl))) (by decide) pf_6 pf_8
theorem sn_com_example_operatory_operatory_fhir_SearchValue_Alternative_system__noSystem {Z : State} {a0 : Array Value} (hw : ∀ d ∈ tables_1, d.before a0 Z = true) : Jvm.RoadKit.slotOf Z "com/example/operatory/operatory/fhir/SearchValue$Alternative" "system" "Ljava/lang/String;" ≠ Jvm.RoadKit.slotOf Z "com/example/operatory/operatory/fhir/SearchValue$Alternative" "noSystem" "Z" := slot_ne (Or.inr (hw _ (List.mem_of_getElem? (i := 55) rfl))) (Or.inr (hw _ (List.mem_of_getElem? (i := 57) rfl))) (by decide) pf_3 pf_7
theorem sn_com_example_operatory_operatory_fhir_SearchValue_Alternative_system__code {Z : State} {a0 : Array Value} (hw : ∀ d ∈ tables_1, d.before a0 Z = true) : Jvm.RoadKit.slotOf Z "com/example/operatory/operatory/fhir/SearchValue$Alternative" "system" "Ljava/lang/String;" ≠ Jvm.RoadKit.slotOf Z "com/example/operatory/operatory/fhir/SearchValue$Alternative" "code" "Ljava/lang/String;" := slot_ne (Or.inr (hw _ (List.mem_of_getElem? (i := 55) rfl))) (Or.inr (hw _ (List.mem_of_getElem? (i := 59) rfl))) (by decide) pf_3 pf_3
theorem sn_com_example_operatory_operatory_fhir_SearchValue_Alternative_system__value {Z : State} {a0 : Array Value} (hw : ∀ d ∈ tables_1, d.before a0 Z = true) : Jvm.RoadKit.slotOf Z "com/example/operatory/operatory/fhir/SearchValue$Alternative" "system" "Ljava/lang/String;" ≠ Jvm.RoadKit.slotOf Z "com/example/operatory/operatory/fhir/SearchValue$Alternative" "value" "Ljava/lang/String;" := slot_ne (Or.inr (hw _ (List.mem_of_getElem? (i := 55) rfl))) (Or.inr (hw _ (List.mem_of_getElem? (i := 61) rfl))) (by decide) pf_3 pf_3
theorem sn_com_example_operatory_operatory_fhir_SearchValue_Alternative_system__type {Z : State} {a0 : Array Value} (hw : ∀ d ∈ tables_1, d.before a0 Z = true) : Jvm.RoadKit.slotOf Z "com/example/operatory/operatory/fhir/SearchValue$Alternative" "system" "Ljava/lang/String;" ≠ Jvm.RoadKit.slotOf Z "com/example/operatory/operatory/fhir/SearchValue$Alternative" "type" "Ljava/lang/String;" := slot_ne (Or.inr (hw _ (List.mem_of_getElem? (i := 55) rfl))) (Or.inr (hw _ (List.mem_of_getElem? (i := 63) rfl))) (by decide) pf_3 pf_3
theorem sn_com_example_operatory_operatory_fhir_SearchValue_Alternative_system__id {Z : State} {a0 : Array Value} (hw : ∀ d ∈ tables_1, d.before a0 Z = true) : Jvm.RoadKit.slotOf Z "com/example/operatory/operatory/fhir/SearchValue$Alternative" "system" "Ljava/lang/String;" ≠ Jvm.RoadKit.slotOf Z "com/example/operatory/operatory/fhir/SearchValue$Alternative" "id" "Ljava/lang/String;" := slot_ne (Or.inr (hw _ (List.mem_of_getElem? (i := 55) rfl))) (Or.inr (hw _ (List.mem_of_getElem? (i := 65) rfl))) (by decide) pf_3 pf_3
theorem sn_com_example_operatory_operatory_fhir_SearchValue_Alternative_system__url {Z : State} {a0 : Array Value} (hw : ∀ d ∈ tables_1, d.before a0 Z = true) : Jvm.RoadKit.slotOf Z "com/example/operatory/operatory/fhir/SearchValue$Alternative" "system" "Ljava/lang/String;" ≠ Jvm.RoadKit.slotOf Z "com/example/operatory/operatory/fhir/SearchValue$Alternative" "url" "Ljava/lang/String;" := slot_ne (Or.inr (hw _ (List.mem_of_getElem? (i := 55) rfl))) (Or.inr (hw _ (List.mem_of_getElem? (i := 67) rfl))) (by decide) pf_3 pf_3
theorem sn_com_example_operatory_operatory_fhir_SearchValue_Alternative_system__missing {Z : State} {a0 : Array Value} (hw : ∀ d ∈ tables_1, d.before a0 Z = true) : Jvm.RoadKit.slotOf Z "com/example/operatory/operatory/fhir/SearchValue$Alternative" "system" "Ljava/lang/String;" ≠ Jvm.RoadKit.slotOf Z "com/example/operatory/operatory/fhir/SearchValue$Alternative" "missing" "Ljava/lang/Boolean;" := slot_ne (Or.inr (hw _ (List.mem_of_getElem? (i := 55) rfl))) (Or.inr (hw _ (List.mem_of_getElem? (i := 69) rfl))) (by decide) pf_3 pf_8
theorem sn_com_example_operatory_operatory_fhir_SearchValue_Alternative_noSystem__code {Z : State} {a0 : Array Value} (hw : ∀ d ∈ tables_1, d.before a0 Z = true) : Jvm.RoadKit.slotOf Z "com/example/operatory/operatory/fhir/SearchValue$Alternative" "noSystem" "Z" ≠ Jvm.RoadKit.slotOf Z "com/example/operatory/operatory/fhir/SearchValue$Alternative" "code" "Ljava/lang/String;" := slot_ne (Or.inr (hw _ (List.mem_of_getElem? (i := 57) rfl))) (Or.inr (hw _ (List.mem_of_getElem? (i := 59) rfl))) (by decide) pf_7 pf_3
theorem sn_com_example_operatory_operatory_fhir_SearchValue_Alternative_noSystem__value {Z : State} {a0 : Array Value} (hw : ∀ d ∈ tables_1, d.before a0 Z = true) : Jvm.RoadKit.slotOf Z "com/example/operatory/operatory/fhir/SearchValue$Alternative" "noSystem" "Z" ≠ Jvm.RoadKit.slotOf Z "com/example/operatory/operatory/fhir/SearchValue$Alternative" "value" "Ljava/lang/String;" := slot_ne (Or.inr (hw _ (List.mem_of_getElem? (i := 57) rfl))) (Or.inr (hw _ (List.mem_of_getElem? (i := 61) rfl))) (by decide) pf_7 pf_3
theorem sn_com_example_operatory_operatory_fhir_SearchValue_Alternative_noSystem__type {Z : State} {a0 : Array Value} (hw : ∀ d ∈ tables_1, d.before a0 Z = true) : Jvm.RoadKit.slotOf Z "com/example/operatory/operatory/fhir/SearchValue$Alternative" "noSystem" "Z" ≠ Jvm.RoadKit.slotOf Z "com/example/operatory/operatory/fhir/SearchValue$Alternative" "type" "Ljava/lang/String;" := slot_ne (Or.inr (hw _ (List.mem_of_getElem? (i := 57) rfl))) (Or.inr (hw _ (List.mem_of_getElem? (i := 63) rfl))) (by decide) pf_7 pf_3
theorem sn_com_example_operatory_operatory_fhir_SearchValue_Alternative_noSystem__id {Z : State} {a0 : Array Value} (hw : ∀ d ∈ tables_1, d.before a0 Z = true) : Jvm.RoadKit.slotOf Z "com/example/operatory/operatory/fhir/SearchValue$Alternative" "noSystem" "Z" ≠ Jvm.RoadKit.slotOf Z "com/example/operatory/operatory/fhir/SearchValue$Alternative" "id" "Ljava/lang/String;" := slot_ne (Or.inr (hw _ (List.mem_of_getElem? (i := 57) rfl))) (Or.inr (hw _ (List.mem_of_getElem? (i := 65) rfl))) (by decide) pf_7 pf_3
theorem sn_com_example_operatory_operatory_fhir_SearchValue_Alternative_noSystem__url {Z : State} {a0 : Array Value} (hw : ∀ d ∈ tables_1, d.before a0 Z = true) : Jvm.RoadKit.slotOf Z "com/example/operatory/operatory/fhir/SearchValue$Alternative" "noSystem" "Z" ≠ Jvm.RoadKit.slotOf Z "com/example/operatory/operatory/fhir/SearchValue$Alternative" "url" "Ljava/lang/String;" := slot_ne (Or.inr (hw _ (List.mem_of_getElem? (i := 57) rfl))) (Or.inr (hw _ (List.mem_of_getElem? (i := 67) rfl))) (by decide) pf_7 pf_3
theorem sn_com_example_operatory_operatory_fhir_SearchValue_Alternative_noSystem__missing {Z : State} {a0 : Array Value} (hw : ∀ d ∈ tables_1, d.before a0 Z = true) : Jvm.RoadKit.slotOf Z "com/example/operatory/operatory/fhir/SearchValue$Alternative" "noSystem" "Z" ≠ Jvm.RoadKit.slotOf Z "com/example/operatory/operatory/fhir/SearchValue$Alternative" "missing" "Ljava/lang/Boolean;" := slot_ne (Or.inr (hw _ (List.mem_of_getElem? (i := 57) rfl))) (Or.inr (hw _ (List.mem_of_getElem? (i := 69) rfl))) (by decide) pf_7 pf_8
theorem sn_com_example_operatory_operatory_fhir_SearchValue_Alternative_code__value {Z : State} {a0 : Array Value} (hw : ∀ d ∈ tables_1, d.before a0 Z = true) : Jvm.RoadKit.slotOf Z "com/example/operatory/operatory/fhir/SearchValue$Alternative" "code" "Ljava/lang/String;" ≠ Jvm.RoadKit.slotOf Z "com/example/operatory/operatory/fhir/SearchValue$Alternative" "value" "Ljava/lang/String;" := slot_ne (Or.inr (hw _ (List.mem_of_getElem? (i := 59) rfl))) (Or.inr (hw _ (List.mem_of_getElem? (i := 61) rfl))) (by decide) pf_3 pf_3
theorem sn_com_example_operatory_operatory_fhir_SearchValue_Alternative_code__type {Z : State} {a0 : Array Value} (hw : ∀ d ∈ tables_1, d.before a0 Z = true) : Jvm.RoadKit.slotOf Z "com/example/operatory/operatory/fhir/SearchValue$Alternative" "code" "Ljava/lang/String;" ≠ Jvm.RoadKit.slotOf Z "com/example/operatory/operatory/fhir/SearchValue$Alternative" "type" "Ljava/lang/String;" := slot_ne (Or.inr (hw _ (List.mem_of_getElem? (i := 59) rfl))) (Or.inr (hw _ (List.mem_of_getElem? (i := 63) rfl))) (by decide) pf_3 pf_3
theorem sn_com_example_operatory_operatory_fhir_SearchValue_Alternative_code__id {Z : State} {a0 : Array Value} (hw : ∀ d ∈ tables_1, d.before a0 Z = true) : Jvm.RoadKit.slotOf Z "com/example/operatory/operatory/fhir/SearchValue$Alternative" "code" "Ljava/lang/String;" ≠ Jvm.RoadKit.slotOf Z "com/example/operatory/operatory/fhir/SearchValue$Alternative" "id" "Ljava/lang/String;" := slot_ne (Or.inr (hw _ (List.mem_of_getElem? (i := 59) rfl))) (Or.inr (hw _ (List.mem_of_getElem? (i := 65) rfl))) (by decide) pf_3 pf_3
theorem sn_com_example_operatory_operatory_fhir_SearchValue_Alternative_code__url {Z : State} {a0 : Array Value} (hw : ∀ d ∈ tables_1, d.before a0 Z = true) : Jvm.RoadKit.slotOf Z "com/example/operatory/operatory/fhir/SearchValue$Alternative" "code" "Ljava/lang/String;" ≠ Jvm.RoadKit.slotOf Z "com/example/operatory/operatory/fhir/SearchValue$Alternative" "url" "Ljava/lang/String;" := slot_ne (Or.inr (hw _ (List.mem_of_getElem? (i := 59) rfl))) (Or.inr (hw _ (List.mem_of_getElem? (i := 67) rfl))) (by decide) pf_3 pf_3
theorem sn_com_example_operatory_operatory_fhir_SearchValue_Alternative_code__missing {Z : State} {a0 : Array Value} (hw : ∀ d ∈ tables_1, d.before a0 Z = true) : Jvm.RoadKit.slotOf Z "com/example/operatory/operatory/fhir/SearchValue$Alternative" "code" "Ljava/lang/String;" ≠ Jvm.RoadKit.slotOf Z "com/example/operatory/operatory/fhir/SearchValue$Alternative" "missing" "Ljava/lang/Boolean;" := slot_ne (Or.inr (hw _ (List.mem_of_getElem? (i := 59) rfl))) (Or.inr (hw _ (List.mem_of_getElem? (i := 69) rfl))) (by decide) pf_3 pf_8
theorem sn_com_example_operatory_operatory_fhir_SearchValue_Alternative_value__type {Z : State} {a0 : Array Value} (hw : ∀ d ∈ tables_1, d.before a0 Z = true) : Jvm.RoadKit.slotOf Z "com/example/operatory/operatory/fhir/SearchValue$Alternative" "value" "Ljava/lang/String;" ≠ Jvm.RoadKit.slotOf Z "com/example/operatory/operatory/fhir/SearchValue$Alternative" "type" "Ljava/lang/String;" := slot_ne (Or.inr (hw _ (List.mem_of_getElem? (i := 61) rfl))) (Or.inr (hw _ (List.mem_of_getElem? (i := 63) rfl))) (by decide) pf_3 pf_3
theorem sn_com_example_operatory_operatory_fhir_SearchValue_Alternative_value__id {Z : State} {a0 : Array Value} (hw : ∀ d ∈ tables_1, d.before a0 Z = true) : Jvm.RoadKit.slotOf Z "com/example/operatory/operatory/fhir/SearchValue$Alternative" "value" "Ljava/lang/String;" ≠ Jvm.RoadKit.slotOf Z "com/example/operatory/operatory/fhir/SearchValue$Alternative" "id" "Ljava/lang/String;" := slot_ne (Or.inr (hw _ (List.mem_of_getElem? (i := 61) rfl))) (Or.inr (hw _ (List.mem_of_getElem? (i := 65) rfl))) (by decide) pf_3 pf_3
theorem sn_com_example_operatory_operatory_fhir_SearchValue_Alternative_value__url {Z : State} {a0 : Array Value} (hw : ∀ d ∈ tables_1, d.before a0 Z = true) : Jvm.RoadKit.slotOf Z "com/example/operatory/operatory/fhir/SearchValue$Alternative" "value" "Ljava/lang/String;" ≠ Jvm.RoadKit.slotOf Z "com/example/operatory/operatory/fhir/SearchValue$Alternative" "url" "Ljava/lang/String;" := slot_ne (Or.inr (hw _ (List.mem_of_getElem? (i := 61) rfl))) (Or.inr (hw _ (List.mem_of_getElem? (i := 67) rfl))) (by decide) pf_3 pf_3
theorem sn_com_example_operatory_operatory_fhir_SearchValue_Alternative_value__missing {Z : State} {a0 : Array Value} (hw : ∀ d ∈ tables_1, d.before a0 Z = true) : Jvm.RoadKit.slotOf Z "com/example/operatory/operatory/fhir/SearchValue$Alternative" "value" "Ljava/lang/String;" ≠ Jvm.RoadKit.slotOf Z "com/example/operatory/operatory/fhir/SearchValue$Alternative" "missing" "Ljava/lang/Boolean;" := slot_ne (Or.inr (hw _ (List.mem_of_getElem? (i := 61) rfl))) (Or.inr (hw _ (List.mem_of_getElem? (i := 69) rfl))) (by decide) pf_3 pf_8
theorem sn_com_example_operatory_operatory_fhir_SearchValue_Alternative_type__id {Z : State} {a0 : Array Value} (hw : ∀ d ∈ tables_1, d.before a0 Z = true) : Jvm.RoadKit.slotOf Z "com/example/operatory/operatory/fhir/SearchValue$Alternative" "type" "Ljava/lang/String;" ≠ Jvm.RoadKit.slotOf Z "com/example/operatory/operatory/fhir/SearchValue$Alternative" "id" "Ljava/lang/String;" := slot_ne (Or.inr (hw _ (List.mem_of_getElem? (i := 63) rfl))) (Or.inr (hw _ (List.mem_of_getElem? (i := 65) rfl))) (by decide) pf_3 pf_3
theorem sn_com_example_operatory_operatory_fhir_SearchValue_Alternative_type__url {Z : State} {a0 : Array Value} (hw : ∀ d ∈ tables_1, d.before a0 Z = true) : Jvm.RoadKit.slotOf Z "com/example/operatory/operatory/fhir/SearchValue$Alternative" "type" "Ljava/lang/String;" ≠ Jvm.RoadKit.slotOf Z "com/example/operatory/operatory/fhir/SearchValue$Alternative" "url" "Ljava/lang/String;" := slot_ne (Or.inr (hw _ (List.mem_of_getElem? (i := 63) rfl))) (Or.inr (hw _ (List.mem_of_getElem? (i := 67) rfl))) (by decide) pf_3 pf_3
theorem sn_com_example_operatory_operatory_fhir_SearchValue_Alternative_type__missing {Z : State} {a0 : Array Value} (hw : ∀ d ∈ tables_1, d.before a0 Z = true) : Jvm.RoadKit.slotOf Z "com/example/operatory/operatory/fhir/SearchValue$Alternative" "type" "Ljava/lang/String;" ≠ Jvm.RoadKit.slotOf Z "com/example/operatory/operatory/fhir/SearchValue$Alternative" "missing" "Ljava/lang/Boolean;" := slot_ne (Or.inr (hw _ (List.mem_of_getElem? (i := 63) rfl))) (Or.inr (hw _ (List.mem_of_getElem? (i := 69) rfl))) (by decide) pf_3 pf_8
theorem sn_com_example_operatory_operatory_fhir_SearchValue_Alternative_id__url {Z : State} {a0 : Array Value} (hw : ∀ d ∈ tables_1, d.before a0 Z = true) : Jvm.RoadKit.slotOf Z "com/example/operatory/operatory/fhir/SearchValue$Alternative" "id" "Ljava/lang/String;" ≠ Jvm.RoadKit.slotOf Z "com/example/operatory/operatory/fhir/SearchValue$Alternative" "url" "Ljava/lang/String;" := slot_ne (Or.inr (hw _ (List.mem_of_getElem? (i := 65) rfl))) (Or.inr (hw _ (List.mem_of_getElem? (i := 67) rfl))) (by decide) pf_3 pf_3
theorem sn_com_example_operatory_operatory_fhir_SearchValue_Alternative_id__missing {Z : State} {a0 : Array Value} (hw : ∀ d ∈ tables_1, d.before a0 Z = true) : Jvm.RoadKit.slotOf Z "com/example/operatory/operatory/fhir/SearchValue$Alternative" "id" "Ljava/lang/String;" ≠ Jvm.RoadKit.slotOf Z "com/example/operatory/operatory/fhir/SearchValue$Alternative" "missing" "Ljava/lang/Boolean;" := slot_ne (Or.inr (hw _ (List.mem_of_getElem? (i := 65) rfl))) (Or.inr (hw _ (List.mem_of_getElem? (i := 69) rfl))) (by decide) pf_3 pf_8
theorem sn_com_example_operatory_operatory_fhir_SearchValue_Alternative_url__missing {Z : State} {a0 : Array Value} (hw : ∀ d ∈ tables_1, d.before a0 Z = true) : Jvm.RoadKit.slotOf Z "com/example/operatory/operatory/fhir/SearchValue$Alternative" "url" "Ljava/lang/String;" ≠ Jvm.RoadKit.slotOf Z "com/example/operatory/operatory/fhir/SearchValue$Alternative" "missing" "Ljava/lang/Boolean;" := slot_ne (Or.inr (hw _ (List.mem_of_getElem? (i := 67) rfl))) (Or.inr (hw _ (List.mem_of_getElem? (i := 69) rfl))) (by decide) pf_3 pf_8
theorem pn_com_example_operatory_operatory_fhir_SearchValue_Alternative : plainName "com/example/operatory/operatory/fhir/SearchValue$Alternative" = true := by first | (simp [plainName, overriddenIn]; done) | decide +kernel
theorem d_prog_5_method_7_code_0 : decode prog_5_method_7_code 0 = .ok (.new 8, 3) := by decide +kernel
theorem d_prog_5_method_7_code_3 : decode prog_5_method_7_code 3 = .ok (.dup, 1) := by decide +kernel
theorem d_prog_5_method_7_code_4 : decode prog_5_method_7_code 4 = .ok (.aload_n 0, 1) := by decide +kernel
theorem d_prog_5_method_7_code_5 : decode prog_5_method_7_code 5 = .ok (.aconst_null, 1) := by decide +kernel
theorem d_prog_5_method_7_code_6 : decode prog_5_method_7_code 6 = .ok (.aconst_null, 1) := by decide +kernel
theorem d_prog_5_method_7_code_7 : decode prog_5_method_7_code 7 = .ok (.aconst_null, 1) := by decide +kernel
theorem d_prog_5_method_7_code_8 : decode prog_5_method_7_code 8 = .ok (.aconst_null, 1) := by decide +kernel
theorem d_prog_5_method_7_code_9 : decode prog_5_method_7_code 9 = .ok (.aconst_null, 1) := by decide +kernel
theorem d_prog_5_method_7_code_10 : decode prog_5_method_7_code 10 = .ok (.iconst 0, 1) := by decide +kernel
theorem d_prog_5_method_7_code_11 : decode prog_5_method_7_code 11 = .ok (.aconst_null, 1) := by decide +kernel
theorem d_prog_5_method_7_code_12 : decode prog_5_method_7_code 12 = .ok (.aconst_null, 1) := by decide +kernel
theorem d_prog_5_method_7_code_13 : decode prog_5_method_7_code 13 = .ok (.aload_n 1, 1) := by decide +kernel
theorem d_prog_5_method_7_code_14 : decode prog_5_method_7_code 14 = .ok (.aload_n 2, 1) := by decide +kernel
theorem d_prog_5_method_7_code_15 : decode prog_5_method_7_code 15 = .ok (.aload_n 3, 1) := by decide +kernel
theorem d_prog_5_method_7_code_16 : decode prog_5_method_7_code 16 = .ok (.aconst_null, 1) := by decide +kernel
theorem d_prog_5_method_7_code_17 : decode prog_5_method_7_code 17 = .ok (.invokespecial 54, 3) := by decide +kernel
theorem pd_6 : parseMethodDescriptor "(Ljava/lang/String;Lcom/example/operatory/operatory/fhir/SearchValue$Prefix;Ljava/math/BigDecimal;Ljava/lang/String;Lcom/example/operatory/operatory/fhir/SearchValue$Precision;Ljava/lang/String;ZLjava/lang/String;Ljava/lang/String;Ljava/lang/String;Ljava/lang/String;Ljava/lang/String;Ljava/lang/Boolean;)V" = some ⟨[(.object "java/lang/String"), (.object "com/example/operatory/operatory/fhir/SearchValue$Prefix"), (.object "java/math/BigDecimal"), (.object "java/lang/String"), (.object "com/example/operatory/operatory/fhir/SearchValue$Precision"), (.object "java/lang/String"), .boolean, (.object "java/lang/String"), (.object "java/lang/String"), (.object "java/lang/String"), (.object "java/lang/String"), (.object "java/lang/String"), (.object "java/lang/Boolean")], none⟩ := by decide +kernel
theorem d_prog_5_method_7_code_20 : decode prog_5_method_7_code 20 = .ok (.areturn, 1) := by decide +kernel
theorem d_prog_5_method_8_code_0 : decode prog_5_method_8_code 0 = .ok (.aload_n 0, 1) := by decide +kernel
theorem d_prog_5_method_8_code_1 : decode prog_5_method_8_code 1 = .ok (.getfield 7, 3) := by decide +kernel
theorem d_prog_5_method_8_code_4 : decode prog_5_method_8_code 4 = .ok (.areturn, 1) := by decide +kernel
theorem d_prog_5_method_17_code_0 : decode prog_5_method_17_code 0 = .ok (.aload_n 0, 1) := by decide +kernel
theorem d_prog_5_method_17_code_1 : decode prog_5_method_17_code 1 = .ok (.getfield 41, 3) := by decide +kernel
theorem d_prog_5_method_17_code_4 : decode prog_5_method_17_code 4 = .ok (.invokestatic 63, 3) := by decide +kernel
theorem pd_7 : parseMethodDescriptor "(Ljava/lang/Object;)Ljava/util/Optional;" = some ⟨[(.object "java/lang/Object")], some (.object "java/util/Optional")⟩ := by decide +kernel
theorem d_prog_5_method_17_code_7 : decode prog_5_method_17_code 7 = .ok (.areturn, 1) := by decide +kernel
theorem d_prog_5_method_18_code_0 : decode prog_5_method_18_code 0 = .ok (.aload_n 0, 1) := by decide +kernel
theorem d_prog_5_method_18_code_1 : decode prog_5_method_18_code 1 = .ok (.getfield 44, 3) := by decide +kernel
theorem d_prog_5_method_18_code_4 : decode prog_5_method_18_code 4 = .ok (.invokestatic 63, 3) := by decide +kernel
theorem d_prog_5_method_18_code_7 : decode prog_5_method_18_code 7 = .ok (.areturn, 1) := by decide +kernel
theorem d_prog_5_method_19_code_0 : decode prog_5_method_19_code 0 = .ok (.aload_n 0, 1) := by decide +kernel
theorem d_prog_5_method_19_code_1 : decode prog_5_method_19_code 1 = .ok (.getfield 47, 3) := by decide +kernel
theorem d_prog_5_method_19_code_4 : decode prog_5_method_19_code 4 = .ok (.invokestatic 63, 3) := by decide +kernel
theorem d_prog_5_method_19_code_7 : decode prog_5_method_19_code 7 = .ok (.areturn, 1) := by decide +kernel
theorem d_prog_5_method_9_code_0 : decode prog_5_method_9_code 0 = .ok (.aload_n 0, 1) := by decide +kernel
theorem d_prog_5_method_9_code_1 : decode prog_5_method_9_code 1 = .ok (.getfield 13, 3) := by decide +kernel
theorem d_prog_5_method_9_code_4 : decode prog_5_method_9_code 4 = .ok (.invokestatic 63, 3) := by decide +kernel
theorem d_prog_5_method_9_code_7 : decode prog_5_method_9_code 7 = .ok (.areturn, 1) := by decide +kernel
theorem d_prog_5_method_10_code_0 : decode prog_5_method_10_code 0 = .ok (.aload_n 0, 1) := by decide +kernel
theorem d_prog_5_method_10_code_1 : decode prog_5_method_10_code 1 = .ok (.getfield 17, 3) := by decide +kernel
theorem d_prog_5_method_10_code_4 : decode prog_5_method_10_code 4 = .ok (.invokestatic 63, 3) := by decide +kernel
theorem d_prog_5_method_10_code_7 : decode prog_5_method_10_code 7 = .ok (.areturn, 1) := by decide +kernel
theorem d_prog_5_method_11_code_0 : decode prog_5_method_11_code 0 = .ok (.aload_n 0, 1) := by decide +kernel
theorem d_prog_5_method_11_code_1 : decode prog_5_method_11_code 1 = .ok (.getfield 21, 3) := by decide +kernel
theorem d_prog_5_method_11_code_4 : decode prog_5_method_11_code 4 = .ok (.invokestatic 63, 3) := by decide +kernel
theorem d_prog_5_method_11_code_7 : decode prog_5_method_11_code 7 = .ok (.areturn, 1) := by decide +kernel
theorem d_prog_5_method_12_code_0 : decode prog_5_method_12_code 0 = .ok (.aload_n 0, 1) := by decide +kernel
theorem d_prog_5_method_12_code_1 : decode prog_5_method_12_code 1 = .ok (.getfield 24, 3) := by decide +kernel
theorem d_prog_5_method_12_code_4 : decode prog_5_method_12_code 4 = .ok (.invokestatic 63, 3) := by decide +kernel
theorem d_prog_5_method_12_code_7 : decode prog_5_method_12_code 7 = .ok (.areturn, 1) := by decide +kernel
theorem d_prog_5_method_13_code_0 : decode prog_5_method_13_code 0 = .ok (.aload_n 0, 1) := by decide +kernel
theorem d_prog_5_method_13_code_1 : decode prog_5_method_13_code 1 = .ok (.getfield 28, 3) := by decide +kernel
theorem d_prog_5_method_13_code_4 : decode prog_5_method_13_code 4 = .ok (.invokestatic 63, 3) := by decide +kernel
theorem d_prog_5_method_13_code_7 : decode prog_5_method_13_code 7 = .ok (.areturn, 1) := by decide +kernel
theorem d_prog_5_method_15_code_0 : decode prog_5_method_15_code 0 = .ok (.aload_n 0, 1) := by decide +kernel
theorem d_prog_5_method_15_code_1 : decode prog_5_method_15_code 1 = .ok (.getfield 35, 3) := by decide +kernel
theorem d_prog_5_method_15_code_4 : decode prog_5_method_15_code 4 = .ok (.invokestatic 63, 3) := by decide +kernel
theorem d_prog_5_method_15_code_7 : decode prog_5_method_15_code 7 = .ok (.areturn, 1) := by decide +kernel
theorem d_prog_5_method_16_code_0 : decode prog_5_method_16_code 0 = .ok (.aload_n 0, 1) := by decide +kernel
theorem d_prog_5_method_16_code_1 : decode prog_5_method_16_code 1 = .ok (.getfield 38, 3) := by decide +kernel
theorem d_prog_5_method_16_code_4 : decode prog_5_method_16_code 4 = .ok (.invokestatic 63, 3) := by decide +kernel
theorem d_prog_5_method_16_code_7 : decode prog_5_method_16_code 7 = .ok (.areturn, 1) := by decide +kernel
theorem d_prog_5_method_20_code_0 : decode prog_5_method_20_code 0 = .ok (.aload_n 0, 1) := by decide +kernel
theorem d_prog_5_method_20_code_1 : decode prog_5_method_20_code 1 = .ok (.getfield 50, 3) := by decide +kernel
theorem d_prog_5_method_20_code_4 : decode prog_5_method_20_code 4 = .ok (.invokestatic 63, 3) := by decide +kernel
theorem d_prog_5_method_20_code_7 : decode prog_5_method_20_code 7 = .ok (.areturn, 1) := by decide +kernel
theorem d_prog_5_method_14_code_0 : decode prog_5_method_14_code 0 = .ok (.aload_n 0, 1) := by decide +kernel
theorem d_prog_5_method_14_code_1 : decode prog_5_method_14_code 1 = .ok (.getfield 31, 3) := by decide +kernel
theorem d_prog_5_method_14_code_4 : decode prog_5_method_14_code 4 = .ok (.ireturn, 1) := by decide +kernel
theorem d_method_3_code_0 : decode method_3_code 0 = .ok (.aload_n 0, 1) := by decide +kernel
theorem d_method_3_code_1 : decode method_3_code 1 = .ok (.ifnonnull 13, 3) := by decide +kernel
theorem d_method_3_code_4 : decode method_3_code 4 = .ok (.aload_n 1, 1) := by decide +kernel
theorem d_method_3_code_5 : decode method_3_code 5 = .ok (.ifnonnull 7, 3) := by decide +kernel
theorem d_method_3_code_8 : decode method_3_code 8 = .ok (.iconst 1, 1) := by decide +kernel
theorem d_method_3_code_9 : decode method_3_code 9 = .ok (.goto 4, 3) := by decide +kernel
theorem d_method_3_code_13 : decode method_3_code 13 = .ok (.ireturn, 1) := by decide +kernel
theorem d_method_3_code_14 : decode method_3_code 14 = .ok (.aload_n 1, 1) := by decide +kernel
theorem d_method_3_code_15 : decode method_3_code 15 = .ok (.ifnull 15, 3) := by decide +kernel
theorem d_method_3_code_18 : decode method_3_code 18 = .ok (.aload_n 0, 1) := by decide +kernel
theorem d_method_3_code_19 : decode method_3_code 19 = .ok (.aload_n 1, 1) := by decide +kernel
theorem d_method_3_code_20 : decode method_3_code 20 = .ok (.invokevirtual 16, 3) := by decide +kernel
theorem pd_8 : parseMethodDescriptor "(Ljava/lang/Object;)Z" = some ⟨[(.object "java/lang/Object")], some .boolean⟩ := by decide +kernel
theorem d_method_3_code_23 : decode method_3_code 23 = .ok (.ifCond .eq 7, 3) := by decide +kernel
theorem d_method_3_code_26 : decode method_3_code 26 = .ok (.iconst 1, 1) := by decide +kernel
theorem d_method_3_code_27 : decode method_3_code 27 = .ok (.goto 4, 3) := by decide +kernel
theorem d_method_3_code_31 : decode method_3_code 31 = .ok (.ireturn, 1) := by decide +kernel
theorem pd_9 : parseMethodDescriptor "(I)Ljava/lang/String;" = some ⟨[.int], some (.object "java/lang/String")⟩ := by decide +kernel
theorem pd_10 : parseMethodDescriptor "(Ljava/lang/String;Ljava/lang/String;Ljava/lang/String;Ljava/lang/String;)Lcom/example/operatory/operatory/fhir/SearchValue$Alternative;" = some ⟨[(.object "java/lang/String"), (.object "java/lang/String"), (.object "java/lang/String"), (.object "java/lang/String")], some (.object "com/example/operatory/operatory/fhir/SearchValue$Alternative")⟩ := by decide +kernel
theorem pd_11 : parseMethodDescriptor "()Ljava/lang/String;" = some ⟨[], some (.object "java/lang/String")⟩ := by decide +kernel
theorem pd_12 : parseMethodDescriptor "(Ljava/lang/String;Ljava/lang/String;)Z" = some ⟨[(.object "java/lang/String"), (.object "java/lang/String")], some .boolean⟩ := by decide +kernel
theorem pd_13 : parseMethodDescriptor "()Ljava/util/Optional;" = some ⟨[], some (.object "java/util/Optional")⟩ := by decide +kernel
theorem pd_14 : parseMethodDescriptor "(Ljava/lang/Object;)Ljava/lang/Object;" = some ⟨[(.object "java/lang/Object")], some (.object "java/lang/Object")⟩ := by decide +kernel
theorem pd_15 : parseMethodDescriptor "()Z" = some ⟨[], some .boolean⟩ := by decide +kernel
def QrmCan (Z : State) (p1 : Int32) (h0 : Heap) (n0 : Nat) (v : Option Value) (h : Heap) (L : List Loc) : Prop := v = some (.int (1 : Int32)) ∧ Fr n0 L ∧ h = h0
theorem ef_rmCan (m : MethodId) (p1 : Int32)  : entryFrame m #[(.int p1)] 1 = mkF m 0 #[.val (.int p1)] [] := by first | (simp [entryFrame, mkF, argsToLocals, maxLocals, Value.category]; done) | rfl
set_option maxRecDepth 65536 in
set_option maxHeartbeats 40000000 in
theorem rmCan (l : Launch) (Z : State) (a0 : Array Value) (hw : ∀ d ∈ tables_1, d.before a0 Z = true) (ws : List Jvm.Cond) (p1 : Int32) (h0 : Heap) (n0 : Nat) (Z0 : n0 ≤ h0.size) (G1 : Int32) (O2 : Sta Z Z.heap "java/lang/String" "COMPACT_STRINGS" "Z" (.int G1)) (P5 : ¬ (G1 = (0 : Int32))) (eA : Addr) (SE : Sta Z Z.heap "java/util/Optional" "EMPTY" "Ljava/util/Optional;" (.ref eA)) (XE : Exa Z Z.heap eA "java/util/Optional") (FE : Fld Z Z.heap eA "java/util/Optional" "value" "Ljava/lang/Object;" .null) (X00 : Old Z n0 h0) (hp1 : ¬ (255 : Int32) < p1) :
    MetFree l (⟨"java/lang/StringLatin1", "canEncode", "(C)Z"⟩ : MethodName) (head1 (Jvm.Cond.code (⟨"java/lang/StringLatin1", "canEncode", "(C)Z"⟩ : MethodName) jdk_43_method_3_code 1 (Option.some Jvm.ClassFile.FieldType.boolean) :: ws) ({ frames := 0, cells := 0, slots := 0, locals := 0 } : Room)) (fun a U => a = #[(.int p1)] ∧ Z.Warmed39 U.vm ∧ U.heap = h0) (fun _ _ _ _ _ => True) (fun _ U o U' => ∃ v L, o = .returned v ∧ QrmCan Z p1 h0 n0 v U'.heap L ∧ FrameEnd U o U' L ({ frames := 0, cells := 0, slots := 0, locals := 0 } : Room).cells ({ frames := 0, cells := 0, slots := 0, locals := 0 } : Room).slots) := by
  refine MetFree.of_bodySF (plainFor_of_name pn_java_lang_StringLatin1) hisR ?_
  intro p e s m args below meth c s₁ Bd hml0 hP hK
  obtain ⟨rfl, hZ, hh⟩ := hP
  have hx := Bd.exec
  have hby := Bd.bytes
  have hml : c.maxLocals = 1 := hml0
  have hown : s.vm.findClass "java/lang/StringLatin1" = some m.cls := findClass_of_methodNamed Bd.named
  have hnm := (name_of_methodNamed Bd.named Bd.method).1
  have hlk : meth.locks = false := BodyLoose.notSynchronized Bd
  have X0 : Stand p l e ({ frames := 0, cells := 0, slots := 0, locals := 0 } : Room) s m #[(.int p1)] below meth c s₁ [] 0 0 := Stand.of_body Bd
  have e0 : s₁.heap = h0 := by rw [← hh, Bd.state]; rfl
  have N0 := Fr.nil n0
  show Ends p.tables e below (fun o U' => ∃ v L, o = .returned v ∧ QrmCan Z p1 h0 n0 v U'.heap L ∧ FrameEnd s o U' L ({ frames := 0, cells := 0, slots := 0, locals := 0 } : Room).cells ({ frames := 0, cells := 0, slots := 0, locals := 0 } : Room).slots) (s₁.setTop (entryFrame m #[(.int p1)] 1))
  refine Ends.step (fun t k => castTop (ef_rmCan m p1 ) k) ?_
  show Ends _ _ _ _ (s₁.setTop (mkF m 0 #[.val (.int p1)] []))
  refine Ends.step (fun t k => XS.iloadN X0.here hx rfl (hb hby d_jdk_43_method_3_code_0) rfl k) ?_
  show Ends _ _ _ _ (s₁.setTop (mkF m 1 #[.val (.int p1)] [(.int p1)]))
  refine Ends.step (fun t k => XS.sipush X0.here hx rfl (hb hby d_jdk_43_method_3_code_1) k) ?_
  show Ends _ _ _ _ (s₁.setTop (mkF m 4 #[.val (.int p1)] [(.int (255 : Int32)), (.int p1)]))
  refine Ends.step (fun t k => XS.icmpNo X0.here hx rfl (hb hby d_jdk_43_method_3_code_4) rfl (flt hp1).2.2.1 k) ?_
  show Ends _ _ _ _ (s₁.setTop (mkF m 7 #[.val (.int p1)] []))
  refine Ends.step (fun t k => XS.iconst X0.here hx rfl (hb hby d_jdk_43_method_3_code_7) k) ?_
  show Ends _ _ _ _ (s₁.setTop (mkF m 8 #[.val (.int p1)] [(.int (1 : Int32))]))
  refine Ends.step (fun t k => XS.goto X0.here hx rfl (pc0 := 8) (pc' := 12) rfl (hb hby d_jdk_43_method_3_code_8) (by decide) (by decide) k) ?_
  show Ends _ _ _ _ (s₁.setTop (mkF m 12 #[.val (.int p1)] [(.int (1 : Int32))]))
  exact own_finI X0 hx hlk (t := .boolean) Bd.returns (by simp) rfl (hb hby d_jdk_43_method_3_code_12) e0 ⟨rfl, N0, rfl⟩ (by decide) (by decide)
def QrmToB (Z : State) (p1 : Int32) (h0 : Heap) (n0 : Nat) (v : Option Value) (h : Heap) (L : List Loc) : Prop := ∃ x : Addr, v = some (.ref x) ∧ Fr n0 L ∧ Keep h0 h [] ∧ (h0.size ≤ x)
theorem ef_rmToB (m : MethodId) (p1 : Int32)  : entryFrame m #[(.int p1)] 1 = mkF m 0 #[.val (.int p1)] [] := by first | (simp [entryFrame, mkF, argsToLocals, maxLocals, Value.category]; done) | rfl
set_option maxRecDepth 65536 in
set_option maxHeartbeats 40000000 in
theorem rmToB (l : Launch) (Z : State) (a0 : Array Value) (hw : ∀ d ∈ tables_1, d.before a0 Z = true) (ws : List Jvm.Cond) (p1 : Int32) (h0 : Heap) (n0 : Nat) (Z0 : n0 ≤ h0.size) (G1 : Int32) (O2 : Sta Z Z.heap "java/lang/String" "COMPACT_STRINGS" "Z" (.int G1)) (P5 : ¬ (G1 = (0 : Int32))) (eA : Addr) (SE : Sta Z Z.heap "java/util/Optional" "EMPTY" "Ljava/util/Optional;" (.ref eA)) (XE : Exa Z Z.heap eA "java/util/Optional") (FE : Fld Z Z.heap eA "java/util/Optional" "value" "Ljava/lang/Object;" .null) (X00 : Old Z n0 h0)  :
    MetFree l (⟨"java/lang/StringLatin1", "toBytes", "(C)[B"⟩ : MethodName) (head1 (Jvm.Cond.code (⟨"java/lang/StringLatin1", "toBytes", "(C)[B"⟩ : MethodName) jdk_43_method_46_code 1 (Option.some (Jvm.ClassFile.FieldType.array Jvm.ClassFile.FieldType.byte)) :: ws) ({ frames := 0, cells := 1, slots := 1, locals := 0 } : Room)) (fun a U => a = #[(.int p1)] ∧ Z.Warmed39 U.vm ∧ U.heap = h0) (fun _ _ _ _ _ => True) (fun _ U o U' => ∃ v L, o = .returned v ∧ QrmToB Z p1 h0 n0 v U'.heap L ∧ FrameEnd U o U' L ({ frames := 0, cells := 1, slots := 1, locals := 0 } : Room).cells ({ frames := 0, cells := 1, slots := 1, locals := 0 } : Room).slots) := by
  refine MetFree.of_bodySF (plainFor_of_name pn_java_lang_StringLatin1) hisR ?_
  intro p e s m args below meth c s₁ Bd hml0 hP hK
  obtain ⟨rfl, hZ, hh⟩ := hP
  have hx := Bd.exec
  have hby := Bd.bytes
  have hml : c.maxLocals = 1 := hml0
  have hown : s.vm.findClass "java/lang/StringLatin1" = some m.cls := findClass_of_methodNamed Bd.named
  have hnm := (name_of_methodNamed Bd.named Bd.method).1
  have hlk : meth.locks = false := BodyLoose.notSynchronized Bd
  have X0 : Stand p l e ({ frames := 0, cells := 1, slots := 1, locals := 0 } : Room) s m #[(.int p1)] below meth c s₁ [] 0 0 := Stand.of_body Bd
  have e0 : s₁.heap = h0 := by rw [← hh, Bd.state]; rfl
  have N0 := Fr.nil n0
  show Ends p.tables e below (fun o U' => ∃ v L, o = .returned v ∧ QrmToB Z p1 h0 n0 v U'.heap L ∧ FrameEnd s o U' L ({ frames := 0, cells := 1, slots := 1, locals := 0 } : Room).cells ({ frames := 0, cells := 1, slots := 1, locals := 0 } : Room).slots) (s₁.setTop (entryFrame m #[(.int p1)] 1))
  refine Ends.step (fun t k => castTop (ef_rmToB m p1 ) k) ?_
  show Ends _ _ _ _ (s₁.setTop (mkF m 0 #[.val (.int p1)] []))
  refine Ends.step (fun t k => XS.iconst X0.here hx rfl (hb hby d_jdk_43_method_46_code_0) k) ?_
  show Ends _ _ _ _ (s₁.setTop (mkF m 1 #[.val (.int p1)] [(.int (1 : Int32))]))
  obtain ⟨T1, h1, k1, X1, e1, E1, A1, st1⟩ := newP X0 hx hZ (hw _ (List.mem_of_getElem? (i := 23) rfl)) e0 (g := (mkF m 1 #[.val (.int p1)] [(.int (1 : Int32))])) rfl (hb hby d_jdk_43_method_46_code_1) rfl (by decide : ¬ ((1 : Int32) < (0 : Int32))) (cap := 1) (by decide) (by decide) (by decide) (by decide)
  obtain ⟨b1, g1⟩ : ∃ z, z = h0.size := ⟨_, rfl⟩
  rw [← g1] at A1 st1
  have X1 : Stand p l e ({ frames := 0, cells := 1, slots := 1, locals := 0 } : Room) s m _ below meth c T1 _ 1 1 := X1
  have V1 : Arv Z h1 b1 k1 .byte (1 : Int32) [(.int (0 : Int32))] (.int (0 : Int32)) := (Arv.new A1 (by decide : ¬ ((1 : Int32) < (0 : Int32)))).pad (pad_rep [] (.int (0 : Int32)) 1)
  refine Ends.step st1 ?_
  show Ends _ _ _ _ (T1.setTop (mkF m 3 #[.val (.int p1)] [(.ref b1)]))
  refine Ends.step (fun t k => XS.dup X1.here hx rfl (hb hby d_jdk_43_method_46_code_3) rfl rfl k) ?_
  show Ends _ _ _ _ (T1.setTop (mkF m 4 #[.val (.int p1)] [(.ref b1), (.ref b1)]))
  refine Ends.step (fun t k => XS.iconst X1.here hx rfl (hb hby d_jdk_43_method_46_code_4) k) ?_
  show Ends _ _ _ _ (T1.setTop (mkF m 5 #[.val (.int p1)] [(.int (0 : Int32)), (.ref b1), (.ref b1)]))
  refine Ends.step (fun t k => XS.iloadN X1.here hx rfl (hb hby d_jdk_43_method_46_code_5) rfl k) ?_
  show Ends _ _ _ _ (T1.setTop (mkF m 6 #[.val (.int p1)] [(.int p1), (.int (0 : Int32)), (.ref b1), (.ref b1)]))
  refine Ends.step (fun t k => XS.i2b X1.here hx rfl (hb hby d_jdk_43_method_46_code_6) rfl k) ?_
  show Ends _ _ _ _ (T1.setTop (mkF m 7 #[.val (.int p1)] [(.int (p1.toInt8.toInt32)), (.int (0 : Int32)), (.ref b1), (.ref b1)]))
  obtain ⟨cl2, Ar2, q2, S2, M2, H2, Gx2⟩ := V1
  obtain ⟨T3, h3, X3, e3, W3, st3⟩ := stB X1 hx hZ e1 Ar2 (j := (0 : Int32)) (inb_of S2 ⟨by decide, by decide⟩) (g := (mkF m 7 #[.val (.int p1)] [(.int (p1.toInt8.toInt32)), (.int (0 : Int32)), (.ref b1), (.ref b1)])) rfl rfl (hb hby d_jdk_43_method_46_code_7)
  have N3 := Fr.snoc X3 N0 (Nat.le_trans (Nat.le_trans Z0 (Nat.le_refl _)) (Nat.le_of_eq g1.symm))
  have V3 : Arv Z h3 b1 k1 .byte (1 : Int32) [(.int (nar .byte (p1.toInt8.toInt32)))] (.int (0 : Int32)) := Arv.set Ar2 q2 S2 M2 H2 Gx2 (fits_nar_byte _) W3 0 rfl (Nat.le_of_ble_eq_true rfl)
  refine Ends.step st3 ?_
  show Ends _ _ _ _ (T3.setTop (mkF m 8 #[.val (.int p1)] [(.ref b1)]))
  exact own_finR X3 hx hlk Bd.returns rfl rfl (hb hby d_jdk_43_method_46_code_8) e3 ⟨b1, rfl, N3, (((Keep.refl h0 []).ext E1).wr W3 (Or.inr (Nat.le_trans (Nat.le_refl _) (Nat.le_of_eq g1.symm)))), (Nat.le_trans (Nat.le_refl _) (Nat.le_of_eq g1.symm))⟩ (by decide) (by decide)
def QrmSBB (Z : State) (a1 : Addr) (a2 : Addr) (h0 : Heap) (n0 : Nat) (v : Option Value) (h : Heap) (L : List Loc) : Prop := v = none ∧ Fr n0 L ∧ Keep h0 h [a1] ∧ (Exa Z h a1 "java/lang/String")
theorem ef_rmSBB (m : MethodId) (a1 : Addr) (a2 : Addr)  : entryFrame m #[(.ref a1), (.ref a2), (.int (0 : Int32))] 3 = mkF m 0 #[.val (.ref a1), .val (.ref a2), .val (.int (0 : Int32))] [] := by first | (simp [entryFrame, mkF, argsToLocals, maxLocals, Value.category]; done) | rfl
set_option maxRecDepth 65536 in
set_option maxHeartbeats 40000000 in
theorem rmSBB (l : Launch) (Z : State) (a0 : Array Value) (hw : ∀ d ∈ tables_1, d.before a0 Z = true) (ws : List Jvm.Cond) (a1 : Addr) (a2 : Addr) (h0 : Heap) (n0 : Nat) (Z0 : n0 ≤ h0.size) (G1 : Int32) (O2 : Sta Z Z.heap "java/lang/String" "COMPACT_STRINGS" "Z" (.int G1)) (P5 : ¬ (G1 = (0 : Int32))) (eA : Addr) (SE : Sta Z Z.heap "java/util/Optional" "EMPTY" "Ljava/util/Optional;" (.ref eA)) (XE : Exa Z Z.heap eA "java/util/Optional") (FE : Fld Z Z.heap eA "java/util/Optional" "value" "Ljava/lang/Object;" .null) (X00 : Old Z n0 h0) (p_Exa_a1 : Exa Z h0 a1 "java/lang/String") (p_Fld_a1_value : Fld Z h0 a1 "java/lang/String" "value" "[B" .null) (p_Fld_a1_coder : Fld Z h0 a1 "java/lang/String" "coder" "B" (.int (0 : Int32))) (ge1 : n0 ≤ a1) :
    MetFree l (⟨"java/lang/String", "<init>", "([BB)V"⟩ : MethodName) (head1 (Jvm.Cond.code (⟨"java/lang/String", "<init>", "([BB)V"⟩ : MethodName) jdk_42_method_151_code 3 (Option.none : Option Jvm.ClassFile.FieldType) :: ws) ({ frames := 1, cells := 0, slots := 0, locals := 12 } : Room)) (fun a U => a = #[(.ref a1), (.ref a2), (.int (0 : Int32))] ∧ Z.Warmed39 U.vm ∧ U.heap = h0) (fun _ _ _ _ _ => True) (fun _ U o U' => ∃ v L, o = .returned v ∧ QrmSBB Z a1 a2 h0 n0 v U'.heap L ∧ FrameEnd U o U' L ({ frames := 1, cells := 0, slots := 0, locals := 12 } : Room).cells ({ frames := 1, cells := 0, slots := 0, locals := 12 } : Room).slots) := by
  refine MetFree.of_bodySF (plainFor_of_name pn_java_lang_String) hisR ?_
  intro p e s m args below meth c s₁ Bd hml0 hP hK
  obtain ⟨rfl, hZ, hh⟩ := hP
  have hx := Bd.exec
  have hby := Bd.bytes
  have hml : c.maxLocals = 3 := hml0
  have hown : s.vm.findClass "java/lang/String" = some m.cls := findClass_of_methodNamed Bd.named
  have hnm := (name_of_methodNamed Bd.named Bd.method).1
  have hlk : meth.locks = false := BodyLoose.notSynchronized Bd
  have X0 : Stand p l e ({ frames := 1, cells := 0, slots := 0, locals := 12 } : Room) s m #[(.ref a1), (.ref a2), (.int (0 : Int32))] below meth c s₁ [] 0 0 := Stand.of_body Bd
  have e0 : s₁.heap = h0 := by rw [← hh, Bd.state]; rfl
  have N0 := Fr.nil n0
  show Ends p.tables e below (fun o U' => ∃ v L, o = .returned v ∧ QrmSBB Z a1 a2 h0 n0 v U'.heap L ∧ FrameEnd s o U' L ({ frames := 1, cells := 0, slots := 0, locals := 12 } : Room).cells ({ frames := 1, cells := 0, slots := 0, locals := 12 } : Room).slots) (s₁.setTop (entryFrame m #[(.ref a1), (.ref a2), (.int (0 : Int32))] 3))
  refine Ends.step (fun t k => castTop (ef_rmSBB m a1 a2 ) k) ?_
  show Ends _ _ _ _ (s₁.setTop (mkF m 0 #[.val (.ref a1), .val (.ref a2), .val (.int (0 : Int32))] []))
  refine Ends.step (fun t k => XS.aloadN X0.here hx rfl (hb hby d_jdk_42_method_151_code_0) rfl rfl k) ?_
  show Ends _ _ _ _ (s₁.setTop (mkF m 1 #[.val (.ref a1), .val (.ref a2), .val (.int (0 : Int32))] [(.ref a1)]))
  obtain ⟨T1, X1, e1, st1⟩ := initO X0 hx hZ hown (hw _ (List.mem_of_getElem? (i := 15) rfl)) (hw _ (List.mem_of_getElem? (i := 16) rfl)) (hw _ (List.mem_of_getElem? (i := 17) rfl)) e0 (g := (mkF m 1 #[.val (.ref a1), .val (.ref a2), .val (.int (0 : Int32))] [(.ref a1)])) rfl (by rw [hml]; rfl) rfl (hb hby d_jdk_42_method_151_code_1) (by decide) (W := 0) (by show 2 * 0 + _ ≤ _; exact Nat.le_of_eq rfl) (by decide)
  refine Ends.step st1 ?_
  show Ends _ _ _ _ (T1.setTop (mkF m 4 #[.val (.ref a1), .val (.ref a2), .val (.int (0 : Int32))] []))
  refine Ends.step (fun t k => XS.aloadN X1.here hx rfl (hb hby d_jdk_42_method_151_code_4) rfl rfl k) ?_
  show Ends _ _ _ _ (T1.setTop (mkF m 5 #[.val (.ref a1), .val (.ref a2), .val (.int (0 : Int32))] [(.ref a1)]))
  refine Ends.step (fun t k => XS.aloadN X1.here hx rfl (hb hby d_jdk_42_method_151_code_5) rfl rfl k) ?_
  show Ends _ _ _ _ (T1.setTop (mkF m 6 #[.val (.ref a1), .val (.ref a2), .val (.int (0 : Int32))] [(.ref a2), (.ref a1)]))
  obtain ⟨T2, h2, X2, e2, W2, st2⟩ := putF X1 hx hZ hown (host := "") (Or.inl (hw _ (List.mem_of_getElem? (i := 32) rfl))) Via.refl e1 p_Fld_a1_value p_Exa_a1 (Or.inr ⟨(hw _ (List.mem_of_getElem? (i := 33) rfl)), rfl, hnm⟩) (hw _ (List.mem_of_getElem? (i := 6) rfl)) pf_0 rfl rfl (g := (mkF m 6 #[.val (.ref a1), .val (.ref a2), .val (.int (0 : Int32))] [(.ref a2), (.ref a1)])) rfl rfl (hb hby d_jdk_42_method_151_code_6)
  have N2 := Fr.snoc X2 N0 ge1
  have Fw2 : Fld Z h2 a1 "java/lang/String" "value" "[B" (.ref a2) := p_Fld_a1_value.same W2
  refine Ends.step st2 ?_
  show Ends _ _ _ _ (T2.setTop (mkF m 9 #[.val (.ref a1), .val (.ref a2), .val (.int (0 : Int32))] []))
  refine Ends.step (fun t k => XS.aloadN X2.here hx rfl (hb hby d_jdk_42_method_151_code_9) rfl rfl k) ?_
  show Ends _ _ _ _ (T2.setTop (mkF m 10 #[.val (.ref a1), .val (.ref a2), .val (.int (0 : Int32))] [(.ref a1)]))
  refine Ends.step (fun t k => XS.iloadN X2.here hx rfl (hb hby d_jdk_42_method_151_code_10) rfl k) ?_
  show Ends _ _ _ _ (T2.setTop (mkF m 11 #[.val (.ref a1), .val (.ref a2), .val (.int (0 : Int32))] [(.int (0 : Int32)), (.ref a1)]))
  have F3 : Exa Z h2 a1 "java/lang/String" := (p_Exa_a1.wr W2)
  have F4 : Fld Z h2 a1 "java/lang/String" "coder" "B" (.int (0 : Int32)) := (p_Fld_a1_coder.other W2 (Or.inr (sn_java_lang_String_coder__value hw)))
  obtain ⟨T5, h5, X5, e5, W5, st5⟩ := putF X2 hx hZ hown (host := "") (Or.inl (hw _ (List.mem_of_getElem? (i := 30) rfl))) Via.refl e2 F4 F3 (Or.inr ⟨(hw _ (List.mem_of_getElem? (i := 31) rfl)), rfl, hnm⟩) (hw _ (List.mem_of_getElem? (i := 6) rfl)) pf_1 rfl rfl (g := (mkF m 11 #[.val (.ref a1), .val (.ref a2), .val (.int (0 : Int32))] [(.int (0 : Int32)), (.ref a1)])) rfl rfl (hb hby d_jdk_42_method_151_code_11)
  have N5 := Fr.snoc X5 N2 ge1
  have Fw5 : Fld Z h5 a1 "java/lang/String" "coder" "B" (.int (0 : Int32)) := F4.same W5
  refine Ends.step st5 ?_
  show Ends _ _ _ _ (T5.setTop (mkF m 14 #[.val (.ref a1), .val (.ref a2), .val (.int (0 : Int32))] []))
  have F6 : Exa Z h5 a1 "java/lang/String" := (F3.wr W5)
  exact own_finV X5 hx hlk Bd.returns (hb hby d_jdk_42_method_151_code_14) e5 (K := _) ⟨rfl, N5, (((Keep.refl h0 [a1]).wr W2 (Or.inl (List.mem_of_getElem? (i := 0) rfl))).wr W5 (Or.inl (List.mem_of_getElem? (i := 0) rfl))), F6⟩ (by decide) (by decide)
def QrmVO (Z : State) (p1 : Int32) (h0 : Heap) (n0 : Nat) (v : Option Value) (h : Heap) (L : List Loc) : Prop := ∃ x : Addr, v = some (.ref x) ∧ Fr n0 L ∧ Keep h0 h [] ∧ (h0.size ≤ x) ∧ (Exa Z h x "java/lang/String")
theorem ef_rmVO (m : MethodId) (p1 : Int32)  : entryFrame m #[(.int p1)] 1 = mkF m 0 #[.val (.int p1)] [] := by first | (simp [entryFrame, mkF, argsToLocals, maxLocals, Value.category]; done) | rfl
set_option maxRecDepth 65536 in
set_option maxHeartbeats 40000000 in
theorem rmVO (l : Launch) (Z : State) (a0 : Array Value) (hw : ∀ d ∈ tables_1, d.before a0 Z = true) (ws : List Jvm.Cond) (p1 : Int32) (h0 : Heap) (n0 : Nat) (Z0 : n0 ≤ h0.size) (G1 : Int32) (O2 : Sta Z Z.heap "java/lang/String" "COMPACT_STRINGS" "Z" (.int G1)) (P5 : ¬ (G1 = (0 : Int32))) (eA : Addr) (SE : Sta Z Z.heap "java/util/Optional" "EMPTY" "Ljava/util/Optional;" (.ref eA)) (XE : Exa Z Z.heap eA "java/util/Optional") (FE : Fld Z Z.heap eA "java/util/Optional" "value" "Ljava/lang/Object;" .null) (X00 : Old Z n0 h0) (hp1 : ¬ (255 : Int32) < p1) :
    MetFree l (⟨"java/lang/String", "valueOf", "(C)Ljava/lang/String;"⟩ : MethodName) (head1 (Jvm.Cond.code (⟨"java/lang/String", "valueOf", "(C)Ljava/lang/String;"⟩ : MethodName) jdk_42_method_139_code 1 (Option.some (Jvm.ClassFile.FieldType.object "java/lang/String")) :: ws) ({ frames := 2, cells := 2, slots := 5, locals := 27 } : Room)) (fun a U => a = #[(.int p1)] ∧ Z.Warmed39 U.vm ∧ U.heap = h0) (fun _ _ _ _ _ => True) (fun _ U o U' => ∃ v L, o = .returned v ∧ QrmVO Z p1 h0 n0 v U'.heap L ∧ FrameEnd U o U' L ({ frames := 2, cells := 2, slots := 5, locals := 27 } : Room).cells ({ frames := 2, cells := 2, slots := 5, locals := 27 } : Room).slots) := by
  refine MetFree.of_bodySF (plainFor_of_name pn_java_lang_String) hisR ?_
  intro p e s m args below meth c s₁ Bd hml0 hP hK
  obtain ⟨rfl, hZ, hh⟩ := hP
  have hx := Bd.exec
  have hby := Bd.bytes
  have hml : c.maxLocals = 1 := hml0
  have hown : s.vm.findClass "java/lang/String" = some m.cls := findClass_of_methodNamed Bd.named
  have hnm := (name_of_methodNamed Bd.named Bd.method).1
  have hlk : meth.locks = false := BodyLoose.notSynchronized Bd
  have X0 : Stand p l e ({ frames := 2, cells := 2, slots := 5, locals := 27 } : Room) s m #[(.int p1)] below meth c s₁ [] 0 0 := Stand.of_body Bd
  have e0 : s₁.heap = h0 := by rw [← hh, Bd.state]; rfl
  have N0 := Fr.nil n0
  show Ends p.tables e below (fun o U' => ∃ v L, o = .returned v ∧ QrmVO Z p1 h0 n0 v U'.heap L ∧ FrameEnd s o U' L ({ frames := 2, cells := 2, slots := 5, locals := 27 } : Room).cells ({ frames := 2, cells := 2, slots := 5, locals := 27 } : Room).slots) (s₁.setTop (entryFrame m #[(.int p1)] 1))
  refine Ends.step (fun t k => castTop (ef_rmVO m p1 ) k) ?_
  show Ends _ _ _ _ (s₁.setTop (mkF m 0 #[.val (.int p1)] []))
  obtain ⟨T1, X1, e1, st1⟩ := getS (host := "") X0 hx hZ hown (hw _ (List.mem_of_getElem? (i := 18) rfl)) Via.refl e0 (O2.ext X00.2) (g := (mkF m 0 #[.val (.int p1)] [])) rfl (hb hby d_jdk_42_method_139_code_0)
  refine Ends.step st1 ?_
  show Ends _ _ _ _ (T1.setTop (mkF m 3 #[.val (.int p1)] [(.int G1)]))
  refine Ends.step (fun t k => XS.ifNo X1.here hx rfl (hb hby d_jdk_42_method_139_code_3) rfl ((if0 _ _).trans (feq P5).1) k) ?_
  show Ends _ _ _ _ (T1.setTop (mkF m 6 #[.val (.int p1)] []))
  refine Ends.step (fun t k => XS.iloadN X1.here hx rfl (hb hby d_jdk_42_method_139_code_6) rfl k) ?_
  show Ends _ _ _ _ (T1.setTop (mkF m 7 #[.val (.int p1)] [(.int p1)]))
  obtain ⟨_, _, ⟨T2, L2, k2, n2⟩, -, X2, ⟨Lc2, hQ2, l2, y2, z2⟩, st2⟩ := Jvm.LawKit.callS X1 hx (y := (⟨"java/lang/StringLatin1", "canEncode", "(C)Z"⟩ : MethodName)) hown (mvT hZ (hw _ (List.mem_of_getElem? (i := 170) rfl))) (mvT hZ (hw _ (List.mem_of_getElem? (i := 171) rfl))) (mvT hZ (hw _ (List.mem_of_getElem? (i := 172) rfl))) (mvT hZ (hw _ (List.mem_of_getElem? (i := 173) rfl))) (by decide) (backOf (W := 0) (rmCan l Z a0 hw [] p1 h0 n0 Z0 G1 O2 P5 eA SE XE FE X00 hp1) hZ (hw _ (List.mem_of_getElem? (i := 173) rfl)) (hw _ (List.mem_of_getElem? (i := 172) rfl)) (by decide) (by decide)) (g := (mkF m 7 #[.val (.int p1)] [(.int p1)])) rfl (by rw [hml]; rfl) (argsL := [(.int p1)]) (rest := []) (lenOf pd_0 rfl) rfl (by show 2 * 0 + _ ≤ _; exact Nat.le_of_eq rfl) (hb hby d_jdk_42_method_139_code_7) (fun _ _ => ⟨rfl, e1, (by decide : 0 + 0 ≤ _), (by decide : 0 + 0 ≤ _)⟩)
  dsimp only [Pt.U, Pt.locs, Pt.cells, Pt.slots] at X2 l2 y2 z2 st2 hQ2
  have X2 : Stand p l e ({ frames := 2, cells := 2, slots := 5, locals := 27 } : Room) s m _ below meth c T2 L2 0 0 := own_reX X2 y2 z2
  obtain ⟨rfl, Nq2, eh2⟩ := hQ2
  have N2 := own_frApp N0 Nq2 l2
  refine Ends.step st2 ?_
  show Ends _ _ _ _ (T2.setTop (mkF m 10 #[.val (.int p1)] [(.int (1 : Int32))]))
  refine Ends.step (fun t k => XS.ifNo X2.here hx rfl (hb hby d_jdk_42_method_139_code_10) rfl ((if0 _ _).trans (feq (by decide : ¬ ((1 : Int32) = (0 : Int32)))).1) k) ?_
  show Ends _ _ _ _ (T2.setTop (mkF m 13 #[.val (.int p1)] []))
  obtain ⟨T3, h3, X3, e3, E3, A3, D3, -, st3⟩ := newO X2 hx hZ hown (hw _ (List.mem_of_getElem? (i := 174) rfl)) (hw _ (List.mem_of_getElem? (i := 6) rfl)) (hw _ (List.mem_of_getElem? (i := 7) rfl)) eh2 (g := (mkF m 13 #[.val (.int p1)] [])) rfl (hb hby d_jdk_42_method_139_code_13) (by decide) (by decide)
  obtain ⟨b3, g3⟩ : ∃ z, z = h0.size := ⟨_, rfl⟩
  rw [← g3] at A3 D3 st3
  have X3 : Stand p l e ({ frames := 2, cells := 2, slots := 5, locals := 27 } : Room) s m _ below meth c T3 _ 1 4 := X3
  refine Ends.step st3 ?_
  show Ends _ _ _ _ (T3.setTop (mkF m 16 #[.val (.int p1)] [(.ref b3)]))
  refine Ends.step (fun t k => XS.dup X3.here hx rfl (hb hby d_jdk_42_method_139_code_16) rfl rfl k) ?_
  show Ends _ _ _ _ (T3.setTop (mkF m 17 #[.val (.int p1)] [(.ref b3), (.ref b3)]))
  refine Ends.step (fun t k => XS.iloadN X3.here hx rfl (hb hby d_jdk_42_method_139_code_17) rfl k) ?_
  show Ends _ _ _ _ (T3.setTop (mkF m 18 #[.val (.int p1)] [(.int p1), (.ref b3), (.ref b3)]))
  have F4 : Old Z n0 h3 := (X00.ext E3)
  obtain ⟨_, _, ⟨T5, L5, k5, n5⟩, -, X5, ⟨Lc5, hQ5, l5, y5, z5⟩, st5⟩ := Jvm.LawKit.callS X3 hx (y := (⟨"java/lang/StringLatin1", "toBytes", "(C)[B"⟩ : MethodName)) hown (mvT hZ (hw _ (List.mem_of_getElem? (i := 175) rfl))) (mvT hZ (hw _ (List.mem_of_getElem? (i := 176) rfl))) (mvT hZ (hw _ (List.mem_of_getElem? (i := 172) rfl))) (mvT hZ (hw _ (List.mem_of_getElem? (i := 177) rfl))) (by decide) (backOf (W := 2) (rmToB l Z a0 hw [] p1 h3 n0 (Nat.le_trans Z0 E3.1) G1 O2 P5 eA SE XE FE F4 ) hZ (hw _ (List.mem_of_getElem? (i := 177) rfl)) (hw _ (List.mem_of_getElem? (i := 172) rfl)) (by decide) (by decide)) (g := (mkF m 18 #[.val (.int p1)] [(.int p1), (.ref b3), (.ref b3)])) rfl (by rw [hml]; rfl) (argsL := [(.int p1)]) (rest := [(.ref b3), (.ref b3)]) (lenOf pd_1 rfl) rfl (by show 2 * 0 + _ ≤ _; exact Nat.le_of_eq rfl) (hb hby d_jdk_42_method_139_code_18) (fun _ _ => ⟨rfl, e3, (by decide : 1 + 1 ≤ _), (by decide : 4 + 1 ≤ _)⟩)
  dsimp only [Pt.U, Pt.locs, Pt.cells, Pt.slots] at X5 l5 y5 z5 st5 hQ5
  have X5 : Stand p l e ({ frames := 2, cells := 2, slots := 5, locals := 27 } : Room) s m _ below meth c T5 L5 2 5 := own_reX X5 y5 z5
  obtain ⟨x_5, rfl, Nq5, K5, f5_0⟩ := hQ5
  have N5 := own_frApp N2 Nq5 l5
  refine Ends.step st5 ?_
  show Ends _ _ _ _ (T5.setTop (mkF m 21 #[.val (.int p1)] [(.ref x_5), (.ref b3), (.ref b3)]))
  refine Ends.step (fun t k => XS.iconst X5.here hx rfl (hb hby d_jdk_42_method_139_code_21) k) ?_
  show Ends _ _ _ _ (T5.setTop (mkF m 22 #[.val (.int p1)] [(.int (0 : Int32)), (.ref x_5), (.ref b3), (.ref b3)]))
  have F6 : Exa Z T5.heap b3 "java/lang/String" := (A3.keep K5)
  have F7 : Fld Z T5.heap b3 "java/lang/String" "value" "[B" .null := ((D3 (Or.inr (hw _ (List.mem_of_getElem? (i := 33) rfl))) pf_0).keep K5 nin0)
  have F8 : Fld Z T5.heap b3 "java/lang/String" "coder" "B" (.int (0 : Int32)) := ((D3 (Or.inr (hw _ (List.mem_of_getElem? (i := 31) rfl))) pf_1).keep K5 nin0)
  have F9 : Old Z n0 T5.heap := (F4.keep K5 all0)
  obtain ⟨_, _, ⟨T10, L10, k10, n10⟩, -, X10, ⟨Lc10, hQ10, l10, y10, z10⟩, st10⟩ := X5.specialBack hx (y := (⟨"java/lang/String", "<init>", "([BB)V"⟩ : MethodName)) rfl hown (mvT hZ (hw _ (List.mem_of_getElem? (i := 178) rfl))) (mvT hZ (hw _ (List.mem_of_getElem? (i := 179) rfl))) (mvT hZ (hw _ (List.mem_of_getElem? (i := 180) rfl))) (by decide) (backOf (W := 1) (rmSBB l Z a0 hw [] b3 x_5 T5.heap n0 (Nat.le_trans Z0 (Nat.le_trans E3.1 K5.1)) G1 O2 P5 eA SE XE FE F9 F6 F7 F8 (Nat.le_trans (Nat.le_trans Z0 (Nat.le_refl _)) (Nat.le_of_eq g3.symm))) hZ (hw _ (List.mem_of_getElem? (i := 180) rfl)) (hw _ (List.mem_of_getElem? (i := 7) rfl)) (by decide) (by decide)) (g := (mkF m 22 #[.val (.int p1)] [(.int (0 : Int32)), (.ref x_5), (.ref b3), (.ref b3)])) rfl (by rw [hml]; rfl) (Steps.refl _) (a := b3) (argsL := [(.ref x_5), (.int (0 : Int32))]) (rest := [(.ref b3)]) (lenOf pd_2 rfl) rfl (by show 2 * 0 + _ ≤ _; exact Nat.le_of_eq rfl) (hb hby d_jdk_42_method_139_code_22) (fun _ _ => ⟨rfl, rfl, (by decide : 2 + 0 ≤ _), (by decide : 5 + 0 ≤ _)⟩)
  dsimp only [Pt.U, Pt.locs, Pt.cells, Pt.slots] at X10 l10 y10 z10 st10 hQ10
  have X10 : Stand p l e ({ frames := 2, cells := 2, slots := 5, locals := 27 } : Room) s m _ below meth c T10 L10 2 5 := own_reX X10 y10 z10
  obtain ⟨rfl, Nq10, K10, f10_0⟩ := hQ10
  have N10 := own_frApp N5 Nq10 l10
  refine Ends.go st10 ?_
  have K11 : Keep h0 T10.heap [] := ((((Keep.refl h0 []).ext E3).trans K5 all0).trans K10 (allS (Or.inr (Nat.le_trans (Nat.le_refl _) (Nat.le_of_eq g3.symm))) all0))
  show Ends _ _ _ _ (T10.setTop (mkF m 25 #[.val (.int p1)] [(.ref b3)]))
  exact own_finR X10 hx hlk Bd.returns rfl rfl (hb hby d_jdk_42_method_139_code_25) rfl ⟨b3, rfl, N10, ((Keep.refl h0 []).trans K11 all0), (Nat.le_trans (Nat.le_refl _) (Nat.le_of_eq g3.symm)), f10_0⟩ (by decide) (by decide)
def QrmEqS (Z : State) (a1 : Addr) (h0 : Heap) (n0 : Nat) (v : Option Value) (h : Heap) (L : List Loc) : Prop := v = some (.int (1 : Int32)) ∧ Fr n0 L ∧ h = h0
theorem ef_rmEqS (m : MethodId) (a1 : Addr)  : entryFrame m #[(.ref a1), (.ref a1)] 3 = mkF m 0 #[.val (.ref a1), .val (.ref a1), .unset] [] := by first | (simp [entryFrame, mkF, argsToLocals, maxLocals, Value.category]; done) | rfl
set_option maxRecDepth 65536 in
set_option maxHeartbeats 40000000 in
theorem rmEqS (l : Launch) (Z : State) (a0 : Array Value) (hw : ∀ d ∈ tables_1, d.before a0 Z = true) (ws : List Jvm.Cond) (a1 : Addr) (h0 : Heap) (n0 : Nat) (Z0 : n0 ≤ h0.size) (G1 : Int32) (O2 : Sta Z Z.heap "java/lang/String" "COMPACT_STRINGS" "Z" (.int G1)) (P5 : ¬ (G1 = (0 : Int32))) (eA : Addr) (SE : Sta Z Z.heap "java/util/Optional" "EMPTY" "Ljava/util/Optional;" (.ref eA)) (XE : Exa Z Z.heap eA "java/util/Optional") (FE : Fld Z Z.heap eA "java/util/Optional" "value" "Ljava/lang/Object;" .null) (X00 : Old Z n0 h0)  :
    MetFree l (⟨"java/lang/String", "equals", "(Ljava/lang/Object;)Z"⟩ : MethodName) (head1 (Jvm.Cond.code (⟨"java/lang/String", "equals", "(Ljava/lang/Object;)Z"⟩ : MethodName) jdk_42_method_66_code 3 (Option.some Jvm.ClassFile.FieldType.boolean) :: ws) ({ frames := 0, cells := 0, slots := 0, locals := 0 } : Room)) (fun a U => a = #[(.ref a1), (.ref a1)] ∧ Z.Warmed39 U.vm ∧ U.heap = h0) (fun _ _ _ _ _ => True) (fun _ U o U' => ∃ v L, o = .returned v ∧ QrmEqS Z a1 h0 n0 v U'.heap L ∧ FrameEnd U o U' L ({ frames := 0, cells := 0, slots := 0, locals := 0 } : Room).cells ({ frames := 0, cells := 0, slots := 0, locals := 0 } : Room).slots) := by
  refine MetFree.of_bodySF (plainFor_of_name pn_java_lang_String) hisR ?_
  intro p e s m args below meth c s₁ Bd hml0 hP hK
  obtain ⟨rfl, hZ, hh⟩ := hP
  have hx := Bd.exec
  have hby := Bd.bytes
  have hml : c.maxLocals = 3 := hml0
  have hown : s.vm.findClass "java/lang/String" = some m.cls := findClass_of_methodNamed Bd.named
  have hnm := (name_of_methodNamed Bd.named Bd.method).1
  have hlk : meth.locks = false := BodyLoose.notSynchronized Bd
  have X0 : Stand p l e ({ frames := 0, cells := 0, slots := 0, locals := 0 } : Room) s m #[(.ref a1), (.ref a1)] below meth c s₁ [] 0 0 := Stand.of_body Bd
  have e0 : s₁.heap = h0 := by rw [← hh, Bd.state]; rfl
  have N0 := Fr.nil n0
  show Ends p.tables e below (fun o U' => ∃ v L, o = .returned v ∧ QrmEqS Z a1 h0 n0 v U'.heap L ∧ FrameEnd s o U' L ({ frames := 0, cells := 0, slots := 0, locals := 0 } : Room).cells ({ frames := 0, cells := 0, slots := 0, locals := 0 } : Room).slots) (s₁.setTop (entryFrame m #[(.ref a1), (.ref a1)] 3))
  refine Ends.step (fun t k => castTop (ef_rmEqS m a1 ) k) ?_
  show Ends _ _ _ _ (s₁.setTop (mkF m 0 #[.val (.ref a1), .val (.ref a1), .unset] []))
  refine Ends.step (fun t k => XS.aloadN X0.here hx rfl (hb hby d_jdk_42_method_66_code_0) rfl rfl k) ?_
  show Ends _ _ _ _ (s₁.setTop (mkF m 1 #[.val (.ref a1), .val (.ref a1), .unset] [(.ref a1)]))
  refine Ends.step (fun t k => XS.aloadN X0.here hx rfl (hb hby d_jdk_42_method_66_code_1) rfl rfl k) ?_
  show Ends _ _ _ _ (s₁.setTop (mkF m 2 #[.val (.ref a1), .val (.ref a1), .unset] [(.ref a1), (.ref a1)]))
  refine Ends.step (fun t k => acmp X0 hx rfl (x := (.ref a1)) (y := (.ref a1)) rfl rfl (pc0 := 2) (pc' := 5) (same := true) rfl (hb hby d_jdk_42_method_66_code_2) rfl (decide_eq_true rfl) (by decide) (by decide) k) ?_
  show Ends _ _ _ _ (s₁.setTop (mkF m 5 #[.val (.ref a1), .val (.ref a1), .unset] []))
  refine Ends.step (fun t k => XS.iconst X0.here hx rfl (hb hby d_jdk_42_method_66_code_5) k) ?_
  show Ends _ _ _ _ (s₁.setTop (mkF m 6 #[.val (.ref a1), .val (.ref a1), .unset] [(.int (1 : Int32))]))
  exact own_finI X0 hx hlk (t := .boolean) Bd.returns (by simp) rfl (hb hby d_jdk_42_method_66_code_6) e0 ⟨rfl, N0, rfl⟩ (by decide) (by decide)
def QrmOpI (Z : State) (a1 : Addr) (v1 : Value) (h0 : Heap) (n0 : Nat) (v : Option Value) (h : Heap) (L : List Loc) : Prop := v = none ∧ Fr n0 L ∧ Keep h0 h [a1] ∧ (Exa Z h a1 "java/util/Optional") ∧ (Fld Z h a1 "java/util/Optional" "value" "Ljava/lang/Object;" v1)
theorem ef_rmOpI (m : MethodId) (a1 : Addr) (v1 : Value) (r_v1 : Value.isRef v1 = true) : entryFrame m #[(.ref a1), v1] 2 = mkF m 0 #[.val (.ref a1), .val v1] [] := by first | (simp [entryFrame, mkF, argsToLocals, maxLocals, own_cR, own_cI, own_cN, own_cJ, XT.cat1 r_v1]; done) | rfl
set_option maxRecDepth 65536 in
set_option maxHeartbeats 40000000 in
theorem rmOpI (l : Launch) (Z : State) (a0 : Array Value) (hw : ∀ d ∈ tables_1, d.before a0 Z = true) (ws : List Jvm.Cond) (a1 : Addr) (v1 : Value) (h0 : Heap) (n0 : Nat) (Z0 : n0 ≤ h0.size) (G1 : Int32) (O2 : Sta Z Z.heap "java/lang/String" "COMPACT_STRINGS" "Z" (.int G1)) (P5 : ¬ (G1 = (0 : Int32))) (eA : Addr) (SE : Sta Z Z.heap "java/util/Optional" "EMPTY" "Ljava/util/Optional;" (.ref eA)) (XE : Exa Z Z.heap eA "java/util/Optional") (FE : Fld Z Z.heap eA "java/util/Optional" "value" "Ljava/lang/Object;" .null) (X00 : Old Z n0 h0) (r_v1 : Value.isRef v1 = true) (p_Exa_a1 : Exa Z h0 a1 "java/util/Optional") (p_Fld_a1_value : Fld Z h0 a1 "java/util/Optional" "value" "Ljava/lang/Object;" .null) (ge1 : n0 ≤ a1) :
    MetFree l (⟨"java/util/Optional", "<init>", "(Ljava/lang/Object;)V"⟩ : MethodName) (head1 (Jvm.Cond.code (⟨"java/util/Optional", "<init>", "(Ljava/lang/Object;)V"⟩ : MethodName) jdk_32_method_2_code 2 (Option.none : Option Jvm.ClassFile.FieldType) :: ws) ({ frames := 1, cells := 0, slots := 0, locals := 12 } : Room)) (fun a U => a = #[(.ref a1), v1] ∧ Z.Warmed39 U.vm ∧ U.heap = h0) (fun _ _ _ _ _ => True) (fun _ U o U' => ∃ v L, o = .returned v ∧ QrmOpI Z a1 v1 h0 n0 v U'.heap L ∧ FrameEnd U o U' L ({ frames := 1, cells := 0, slots := 0, locals := 12 } : Room).cells ({ frames := 1, cells := 0, slots := 0, locals := 12 } : Room).slots) := by
  refine MetFree.of_bodySF (plainFor_of_name pn_java_util_Optional) hisR ?_
  intro p e s m args below meth c s₁ Bd hml0 hP hK
  obtain ⟨rfl, hZ, hh⟩ := hP
  have hx := Bd.exec
  have hby := Bd.bytes
  have hml : c.maxLocals = 2 := hml0
  have hown : s.vm.findClass "java/util/Optional" = some m.cls := findClass_of_methodNamed Bd.named
  have hnm := (name_of_methodNamed Bd.named Bd.method).1
  have hlk : meth.locks = false := BodyLoose.notSynchronized Bd
  have X0 : Stand p l e ({ frames := 1, cells := 0, slots := 0, locals := 12 } : Room) s m #[(.ref a1), v1] below meth c s₁ [] 0 0 := Stand.of_body Bd
  have e0 : s₁.heap = h0 := by rw [← hh, Bd.state]; rfl
  have N0 := Fr.nil n0
  show Ends p.tables e below (fun o U' => ∃ v L, o = .returned v ∧ QrmOpI Z a1 v1 h0 n0 v U'.heap L ∧ FrameEnd s o U' L ({ frames := 1, cells := 0, slots := 0, locals := 12 } : Room).cells ({ frames := 1, cells := 0, slots := 0, locals := 12 } : Room).slots) (s₁.setTop (entryFrame m #[(.ref a1), v1] 2))
  refine Ends.step (fun t k => castTop (ef_rmOpI m a1 v1 r_v1) k) ?_
  show Ends _ _ _ _ (s₁.setTop (mkF m 0 #[.val (.ref a1), .val v1] []))
  refine Ends.step (fun t k => XS.aloadN X0.here hx rfl (hb hby d_jdk_32_method_2_code_0) rfl rfl k) ?_
  show Ends _ _ _ _ (s₁.setTop (mkF m 1 #[.val (.ref a1), .val v1] [(.ref a1)]))
  obtain ⟨T1, X1, e1, st1⟩ := initO X0 hx hZ hown (hw _ (List.mem_of_getElem? (i := 98) rfl)) (hw _ (List.mem_of_getElem? (i := 16) rfl)) (hw _ (List.mem_of_getElem? (i := 17) rfl)) e0 (g := (mkF m 1 #[.val (.ref a1), .val v1] [(.ref a1)])) rfl (by rw [hml]; rfl) rfl (hb hby d_jdk_32_method_2_code_1) (by decide) (W := 0) (by show 2 * 0 + _ ≤ _; exact Nat.le_of_eq rfl) (by decide)
  refine Ends.step st1 ?_
  show Ends _ _ _ _ (T1.setTop (mkF m 4 #[.val (.ref a1), .val v1] []))
  refine Ends.step (fun t k => XS.aloadN X1.here hx rfl (hb hby d_jdk_32_method_2_code_4) rfl rfl k) ?_
  show Ends _ _ _ _ (T1.setTop (mkF m 5 #[.val (.ref a1), .val v1] [(.ref a1)]))
  refine Ends.step (fun t k => XS.aloadN X1.here hx rfl (hb hby d_jdk_32_method_2_code_5) rfl r_v1 k) ?_
  show Ends _ _ _ _ (T1.setTop (mkF m 6 #[.val (.ref a1), .val v1] [v1, (.ref a1)]))
  obtain ⟨T2, h2, X2, e2, W2, st2⟩ := putF X1 hx hZ hown (host := "") (Or.inl (hw _ (List.mem_of_getElem? (i := 99) rfl))) Via.refl e1 p_Fld_a1_value p_Exa_a1 (Or.inr ⟨(hw _ (List.mem_of_getElem? (i := 100) rfl)), rfl, hnm⟩) (hw _ (List.mem_of_getElem? (i := 93) rfl)) pf_2 (own_narrow_ref r_v1 rfl) (own_fits_ref r_v1 rfl) (g := (mkF m 6 #[.val (.ref a1), .val v1] [v1, (.ref a1)])) rfl rfl (hb hby d_jdk_32_method_2_code_6)
  have N2 := Fr.snoc X2 N0 ge1
  have Fw2 : Fld Z h2 a1 "java/util/Optional" "value" "Ljava/lang/Object;" v1 := p_Fld_a1_value.same W2
  refine Ends.step st2 ?_
  show Ends _ _ _ _ (T2.setTop (mkF m 9 #[.val (.ref a1), .val v1] []))
  have F3 : Exa Z h2 a1 "java/util/Optional" := (p_Exa_a1.wr W2)
  exact own_finV X2 hx hlk Bd.returns (hb hby d_jdk_32_method_2_code_9) e2 (K := _) ⟨rfl, N2, ((Keep.refl h0 [a1]).wr W2 (Or.inl (List.mem_of_getElem? (i := 0) rfl))), F3, Fw2⟩ (by decide) (by decide)
def QrmOpNn (Z : State) (eA : Addr) (h0 : Heap) (n0 : Nat) (v : Option Value) (h : Heap) (L : List Loc) : Prop := v = some (.ref eA) ∧ Fr n0 L ∧ h = h0
theorem ef_rmOpNn (m : MethodId)   : entryFrame m #[.null] 1 = mkF m 0 #[.val .null] [] := by first | (simp [entryFrame, mkF, argsToLocals, maxLocals, Value.category]; done) | rfl
set_option maxRecDepth 65536 in
set_option maxHeartbeats 40000000 in
theorem rmOpNn (l : Launch) (Z : State) (a0 : Array Value) (hw : ∀ d ∈ tables_1, d.before a0 Z = true) (ws : List Jvm.Cond)  (h0 : Heap) (n0 : Nat) (Z0 : n0 ≤ h0.size) (G1 : Int32) (O2 : Sta Z Z.heap "java/lang/String" "COMPACT_STRINGS" "Z" (.int G1)) (P5 : ¬ (G1 = (0 : Int32))) (eA : Addr) (SE : Sta Z Z.heap "java/util/Optional" "EMPTY" "Ljava/util/Optional;" (.ref eA)) (XE : Exa Z Z.heap eA "java/util/Optional") (FE : Fld Z Z.heap eA "java/util/Optional" "value" "Ljava/lang/Object;" .null) (X00 : Old Z n0 h0)  :
    MetFree l (⟨"java/util/Optional", "ofNullable", "(Ljava/lang/Object;)Ljava/util/Optional;"⟩ : MethodName) (head1 (Jvm.Cond.code (⟨"java/util/Optional", "ofNullable", "(Ljava/lang/Object;)Ljava/util/Optional;"⟩ : MethodName) jdk_32_method_4_code 1 (Option.some (Jvm.ClassFile.FieldType.object "java/util/Optional")) :: ws) ({ frames := 0, cells := 0, slots := 0, locals := 0 } : Room)) (fun a U => a = #[.null] ∧ Z.Warmed39 U.vm ∧ U.heap = h0) (fun _ _ _ _ _ => True) (fun _ U o U' => ∃ v L, o = .returned v ∧ QrmOpNn Z eA h0 n0 v U'.heap L ∧ FrameEnd U o U' L ({ frames := 0, cells := 0, slots := 0, locals := 0 } : Room).cells ({ frames := 0, cells := 0, slots := 0, locals := 0 } : Room).slots) := by
  refine MetFree.of_bodySF (plainFor_of_name pn_java_util_Optional) hisR ?_
  intro p e s m args below meth c s₁ Bd hml0 hP hK
  obtain ⟨rfl, hZ, hh⟩ := hP
  have hx := Bd.exec
  have hby := Bd.bytes
  have hml : c.maxLocals = 1 := hml0
  have hown : s.vm.findClass "java/util/Optional" = some m.cls := findClass_of_methodNamed Bd.named
  have hnm := (name_of_methodNamed Bd.named Bd.method).1
  have hlk : meth.locks = false := BodyLoose.notSynchronized Bd
  have X0 : Stand p l e ({ frames := 0, cells := 0, slots := 0, locals := 0 } : Room) s m #[.null] below meth c s₁ [] 0 0 := Stand.of_body Bd
  have e0 : s₁.heap = h0 := by rw [← hh, Bd.state]; rfl
  have N0 := Fr.nil n0
  show Ends p.tables e below (fun o U' => ∃ v L, o = .returned v ∧ QrmOpNn Z eA h0 n0 v U'.heap L ∧ FrameEnd s o U' L ({ frames := 0, cells := 0, slots := 0, locals := 0 } : Room).cells ({ frames := 0, cells := 0, slots := 0, locals := 0 } : Room).slots) (s₁.setTop (entryFrame m #[.null] 1))
  refine Ends.step (fun t k => castTop (ef_rmOpNn m  ) k) ?_
  show Ends _ _ _ _ (s₁.setTop (mkF m 0 #[.val .null] []))
  refine Ends.step (fun t k => XS.aloadN X0.here hx rfl (hb hby d_jdk_32_method_4_code_0) rfl rfl k) ?_
  show Ends _ _ _ _ (s₁.setTop (mkF m 1 #[.val .null] [.null]))
  refine Ends.step (fun t k => XS.ifnonnullNo X0.here hx rfl (hb hby d_jdk_32_method_4_code_1) rfl k) ?_
  show Ends _ _ _ _ (s₁.setTop (mkF m 4 #[.val .null] []))
  obtain ⟨T1, X1, e1, st1⟩ := getS (host := "") X0 hx hZ hown (hw _ (List.mem_of_getElem? (i := 121) rfl)) Via.refl e0 (SE.ext X00.2) (g := (mkF m 4 #[.val .null] [])) rfl (hb hby d_jdk_32_method_4_code_4)
  refine Ends.step st1 ?_
  show Ends _ _ _ _ (T1.setTop (mkF m 7 #[.val .null] [(.ref eA)]))
  refine Ends.step (fun t k => XS.goto X1.here hx rfl (pc0 := 7) (pc' := 18) rfl (hb hby d_jdk_32_method_4_code_7) (by decide) (by decide) k) ?_
  show Ends _ _ _ _ (T1.setTop (mkF m 18 #[.val .null] [(.ref eA)]))
  exact own_finR X1 hx hlk Bd.returns rfl rfl (hb hby d_jdk_32_method_4_code_18) e1 ⟨rfl, N0, rfl⟩ (by decide) (by decide)
def QrmOpNr (Z : State) (a1 : Addr) (h0 : Heap) (n0 : Nat) (v : Option Value) (h : Heap) (L : List Loc) : Prop := ∃ x : Addr, v = some (.ref x) ∧ Fr n0 L ∧ Keep h0 h [] ∧ (h0.size ≤ x) ∧ (Exa Z h x "java/util/Optional") ∧ (Fld Z h x "java/util/Optional" "value" "Ljava/lang/Object;" (.ref a1))
theorem ef_rmOpNr (m : MethodId) (a1 : Addr)  : entryFrame m #[(.ref a1)] 1 = mkF m 0 #[.val (.ref a1)] [] := by first | (simp [entryFrame, mkF, argsToLocals, maxLocals, Value.category]; done) | rfl
set_option maxRecDepth 65536 in
set_option maxHeartbeats 40000000 in
theorem rmOpNr (l : Launch) (Z : State) (a0 : Array Value) (hw : ∀ d ∈ tables_1, d.before a0 Z = true) (ws : List Jvm.Cond) (a1 : Addr) (h0 : Heap) (n0 : Nat) (Z0 : n0 ≤ h0.size) (G1 : Int32) (O2 : Sta Z Z.heap "java/lang/String" "COMPACT_STRINGS" "Z" (.int G1)) (P5 : ¬ (G1 = (0 : Int32))) (eA : Addr) (SE : Sta Z Z.heap "java/util/Optional" "EMPTY" "Ljava/util/Optional;" (.ref eA)) (XE : Exa Z Z.heap eA "java/util/Optional") (FE : Fld Z Z.heap eA "java/util/Optional" "value" "Ljava/lang/Object;" .null) (X00 : Old Z n0 h0)  :
    MetFree l (⟨"java/util/Optional", "ofNullable", "(Ljava/lang/Object;)Ljava/util/Optional;"⟩ : MethodName) (head1 (Jvm.Cond.code (⟨"java/util/Optional", "ofNullable", "(Ljava/lang/Object;)Ljava/util/Optional;"⟩ : MethodName) jdk_32_method_4_code 1 (Option.some (Jvm.ClassFile.FieldType.object "java/util/Optional")) :: ws) ({ frames := 2, cells := 1, slots := 1, locals := 26 } : Room)) (fun a U => a = #[(.ref a1)] ∧ Z.Warmed39 U.vm ∧ U.heap = h0) (fun _ _ _ _ _ => True) (fun _ U o U' => ∃ v L, o = .returned v ∧ QrmOpNr Z a1 h0 n0 v U'.heap L ∧ FrameEnd U o U' L ({ frames := 2, cells := 1, slots := 1, locals := 26 } : Room).cells ({ frames := 2, cells := 1, slots := 1, locals := 26 } : Room).slots) := by
  refine MetFree.of_bodySF (plainFor_of_name pn_java_util_Optional) hisR ?_
  intro p e s m args below meth c s₁ Bd hml0 hP hK
  obtain ⟨rfl, hZ, hh⟩ := hP
  have hx := Bd.exec
  have hby := Bd.bytes
  have hml : c.maxLocals = 1 := hml0
  have hown : s.vm.findClass "java/util/Optional" = some m.cls := findClass_of_methodNamed Bd.named
  have hnm := (name_of_methodNamed Bd.named Bd.method).1
  have hlk : meth.locks = false := BodyLoose.notSynchronized Bd
  have X0 : Stand p l e ({ frames := 2, cells := 1, slots := 1, locals := 26 } : Room) s m #[(.ref a1)] below meth c s₁ [] 0 0 := Stand.of_body Bd
  have e0 : s₁.heap = h0 := by rw [← hh, Bd.state]; rfl
  have N0 := Fr.nil n0
  show Ends p.tables e below (fun o U' => ∃ v L, o = .returned v ∧ QrmOpNr Z a1 h0 n0 v U'.heap L ∧ FrameEnd s o U' L ({ frames := 2, cells := 1, slots := 1, locals := 26 } : Room).cells ({ frames := 2, cells := 1, slots := 1, locals := 26 } : Room).slots) (s₁.setTop (entryFrame m #[(.ref a1)] 1))
  refine Ends.step (fun t k => castTop (ef_rmOpNr m a1 ) k) ?_
  show Ends _ _ _ _ (s₁.setTop (mkF m 0 #[.val (.ref a1)] []))
  refine Ends.step (fun t k => XS.aloadN X0.here hx rfl (hb hby d_jdk_32_method_4_code_0) rfl rfl k) ?_
  show Ends _ _ _ _ (s₁.setTop (mkF m 1 #[.val (.ref a1)] [(.ref a1)]))
  refine Ends.step (fun t k => XS.ifnonnullYes X0.here hx rfl (pc0 := 1) (pc' := 10) rfl (hb hby d_jdk_32_method_4_code_1) rfl (by decide) (by decide) k) ?_
  show Ends _ _ _ _ (s₁.setTop (mkF m 10 #[.val (.ref a1)] []))
  obtain ⟨T1, h1, X1, e1, E1, A1, D1, -, st1⟩ := newO X0 hx hZ hown (hw _ (List.mem_of_getElem? (i := 92) rfl)) (hw _ (List.mem_of_getElem? (i := 93) rfl)) (hw _ (List.mem_of_getElem? (i := 90) rfl)) e0 (g := (mkF m 10 #[.val (.ref a1)] [])) rfl (hb hby d_jdk_32_method_4_code_10) (by decide) (by decide)
  obtain ⟨b1, g1⟩ : ∃ z, z = h0.size := ⟨_, rfl⟩
  rw [← g1] at A1 D1 st1
  have X1 : Stand p l e ({ frames := 2, cells := 1, slots := 1, locals := 26 } : Room) s m _ below meth c T1 _ 1 1 := X1
  refine Ends.step st1 ?_
  show Ends _ _ _ _ (T1.setTop (mkF m 13 #[.val (.ref a1)] [(.ref b1)]))
  refine Ends.step (fun t k => XS.dup X1.here hx rfl (hb hby d_jdk_32_method_4_code_13) rfl rfl k) ?_
  show Ends _ _ _ _ (T1.setTop (mkF m 14 #[.val (.ref a1)] [(.ref b1), (.ref b1)]))
  refine Ends.step (fun t k => XS.aloadN X1.here hx rfl (hb hby d_jdk_32_method_4_code_14) rfl rfl k) ?_
  show Ends _ _ _ _ (T1.setTop (mkF m 15 #[.val (.ref a1)] [(.ref a1), (.ref b1), (.ref b1)]))
  have F2 : Old Z n0 h1 := (X00.ext E1)
  obtain ⟨_, _, ⟨T3, L3, k3, n3⟩, -, X3, ⟨Lc3, hQ3, l3, y3, z3⟩, st3⟩ := X1.specialBack hx (y := (⟨"java/util/Optional", "<init>", "(Ljava/lang/Object;)V"⟩ : MethodName)) rfl hown (mvT hZ (hw _ (List.mem_of_getElem? (i := 94) rfl))) (mvT hZ (hw _ (List.mem_of_getElem? (i := 95) rfl))) (mvT hZ (hw _ (List.mem_of_getElem? (i := 97) rfl))) (by decide) (backOf (W := 1) (rmOpI l Z a0 hw [] b1 (.ref a1) h1 n0 (Nat.le_trans Z0 E1.1) G1 O2 P5 eA SE XE FE F2 rfl A1 (D1 (Or.inr (hw _ (List.mem_of_getElem? (i := 100) rfl))) pf_2) (Nat.le_trans (Nat.le_trans Z0 (Nat.le_refl _)) (Nat.le_of_eq g1.symm))) hZ (hw _ (List.mem_of_getElem? (i := 97) rfl)) (hw _ (List.mem_of_getElem? (i := 90) rfl)) (by decide) (by decide)) (g := (mkF m 15 #[.val (.ref a1)] [(.ref a1), (.ref b1), (.ref b1)])) rfl (by rw [hml]; rfl) (Steps.refl _) (a := b1) (argsL := [(.ref a1)]) (rest := [(.ref b1)]) (lenOf pd_3 rfl) rfl (by show 2 * 0 + _ ≤ _; exact Nat.le_of_eq rfl) (hb hby d_jdk_32_method_4_code_15) (fun _ _ => ⟨rfl, e1, (by decide : 1 + 0 ≤ _), (by decide : 1 + 0 ≤ _)⟩)
  dsimp only [Pt.U, Pt.locs, Pt.cells, Pt.slots] at X3 l3 y3 z3 st3 hQ3
  have X3 : Stand p l e ({ frames := 2, cells := 1, slots := 1, locals := 26 } : Room) s m _ below meth c T3 L3 1 1 := own_reX X3 y3 z3
  obtain ⟨rfl, Nq3, K3, f3_0, f3_1⟩ := hQ3
  have N3 := own_frApp N0 Nq3 l3
  refine Ends.go st3 ?_
  have K4 : Keep h0 T3.heap [] := (((Keep.refl h0 []).ext E1).trans K3 (allS (Or.inr (Nat.le_trans (Nat.le_refl _) (Nat.le_of_eq g1.symm))) all0))
  show Ends _ _ _ _ (T3.setTop (mkF m 18 #[.val (.ref a1)] [(.ref b1)]))
  exact own_finR X3 hx hlk Bd.returns rfl rfl (hb hby d_jdk_32_method_4_code_18) rfl ⟨b1, rfl, N3, ((Keep.refl h0 []).trans K4 all0), (Nat.le_trans (Nat.le_refl _) (Nat.le_of_eq g1.symm)), f3_0, f3_1⟩ (by decide) (by decide)
def QrmOpNg (Z : State) (v1 : Value) (h0 : Heap) (n0 : Nat) (v : Option Value) (h : Heap) (L : List Loc) : Prop := ∃ x : Addr, v = some (.ref x) ∧ Fr n0 L ∧ Keep h0 h [] ∧ (Exa Z h x "java/util/Optional") ∧ (Fld Z h x "java/util/Optional" "value" "Ljava/lang/Object;" v1)
theorem ef_rmOpNg (m : MethodId) (v1 : Value) (r_v1 : Value.isRef v1 = true) : entryFrame m #[v1] 1 = mkF m 0 #[.val v1] [] := by first | (simp [entryFrame, mkF, argsToLocals, maxLocals, own_cR, own_cI, own_cN, own_cJ, XT.cat1 r_v1]; done) | rfl
set_option maxRecDepth 65536 in
set_option maxHeartbeats 40000000 in
theorem rmOpNg (l : Launch) (Z : State) (a0 : Array Value) (hw : ∀ d ∈ tables_1, d.before a0 Z = true) (ws : List Jvm.Cond) (v1 : Value) (h0 : Heap) (n0 : Nat) (Z0 : n0 ≤ h0.size) (G1 : Int32) (O2 : Sta Z Z.heap "java/lang/String" "COMPACT_STRINGS" "Z" (.int G1)) (P5 : ¬ (G1 = (0 : Int32))) (eA : Addr) (SE : Sta Z Z.heap "java/util/Optional" "EMPTY" "Ljava/util/Optional;" (.ref eA)) (XE : Exa Z Z.heap eA "java/util/Optional") (FE : Fld Z Z.heap eA "java/util/Optional" "value" "Ljava/lang/Object;" .null) (X00 : Old Z n0 h0) (r_v1 : Value.isRef v1 = true) :
    MetFree l (⟨"java/util/Optional", "ofNullable", "(Ljava/lang/Object;)Ljava/util/Optional;"⟩ : MethodName) (head1 (Jvm.Cond.code (⟨"java/util/Optional", "ofNullable", "(Ljava/lang/Object;)Ljava/util/Optional;"⟩ : MethodName) jdk_32_method_4_code 1 (Option.some (Jvm.ClassFile.FieldType.object "java/util/Optional")) :: ws) ({ frames := 2, cells := 1, slots := 1, locals := 26 } : Room)) (fun a U => a = #[v1] ∧ Z.Warmed39 U.vm ∧ U.heap = h0) (fun _ _ _ _ _ => True) (fun _ U o U' => ∃ v L, o = .returned v ∧ QrmOpNg Z v1 h0 n0 v U'.heap L ∧ FrameEnd U o U' L ({ frames := 2, cells := 1, slots := 1, locals := 26 } : Room).cells ({ frames := 2, cells := 1, slots := 1, locals := 26 } : Room).slots) := by
  refine MetFree.of_bodySF (plainFor_of_name pn_java_util_Optional) hisR ?_
  intro p e s m args below meth c s₁ Bd hml0 hP hK
  obtain ⟨rfl, hZ, hh⟩ := hP
  have hx := Bd.exec
  have hby := Bd.bytes
  have hml : c.maxLocals = 1 := hml0
  have hown : s.vm.findClass "java/util/Optional" = some m.cls := findClass_of_methodNamed Bd.named
  have hnm := (name_of_methodNamed Bd.named Bd.method).1
  have hlk : meth.locks = false := BodyLoose.notSynchronized Bd
  have X0 : Stand p l e ({ frames := 2, cells := 1, slots := 1, locals := 26 } : Room) s m #[v1] below meth c s₁ [] 0 0 := Stand.of_body Bd
  have e0 : s₁.heap = h0 := by rw [← hh, Bd.state]; rfl
  have N0 := Fr.nil n0
  show Ends p.tables e below (fun o U' => ∃ v L, o = .returned v ∧ QrmOpNg Z v1 h0 n0 v U'.heap L ∧ FrameEnd s o U' L ({ frames := 2, cells := 1, slots := 1, locals := 26 } : Room).cells ({ frames := 2, cells := 1, slots := 1, locals := 26 } : Room).slots) (s₁.setTop (entryFrame m #[v1] 1))
  refine Ends.step (fun t k => castTop (ef_rmOpNg m v1 r_v1) k) ?_
  show Ends _ _ _ _ (s₁.setTop (mkF m 0 #[.val v1] []))
  refine Ends.step (fun t k => XS.aloadN X0.here hx rfl (hb hby d_jdk_32_method_4_code_0) rfl r_v1 k) ?_
  show Ends _ _ _ _ (s₁.setTop (mkF m 1 #[.val v1] [v1]))
  rcases XT.refc r_v1 with rfl | ⟨ac1, rfl⟩
  · refine Ends.step (fun t k => XS.ifnonnullNo X0.here hx rfl (hb hby d_jdk_32_method_4_code_1) rfl k) ?_
    show Ends _ _ _ _ (s₁.setTop (mkF m 4 #[.val .null] []))
    obtain ⟨T2, X2, e2, st2⟩ := getS (host := "") X0 hx hZ hown (hw _ (List.mem_of_getElem? (i := 121) rfl)) Via.refl e0 (SE.ext X00.2) (g := (mkF m 4 #[.val .null] [])) rfl (hb hby d_jdk_32_method_4_code_4)
    refine Ends.step st2 ?_
    show Ends _ _ _ _ (T2.setTop (mkF m 7 #[.val .null] [(.ref eA)]))
    refine Ends.step (fun t k => XS.goto X2.here hx rfl (pc0 := 7) (pc' := 18) rfl (hb hby d_jdk_32_method_4_code_7) (by decide) (by decide) k) ?_
    show Ends _ _ _ _ (T2.setTop (mkF m 18 #[.val .null] [(.ref eA)]))
    exact own_finR X2 hx hlk Bd.returns rfl rfl (hb hby d_jdk_32_method_4_code_18) e2 ⟨eA, rfl, N0, (Keep.refl h0 []), (XE.ext X00.2), (FE.ext X00.2)⟩ (by decide) (by decide)
  · refine Ends.step (fun t k => XS.ifnonnullYes X0.here hx rfl (pc0 := 1) (pc' := 10) rfl (hb hby d_jdk_32_method_4_code_1) rfl (by decide) (by decide) k) ?_
    show Ends _ _ _ _ (s₁.setTop (mkF m 10 #[.val (.ref ac1)] []))
    obtain ⟨T3, h3, X3, e3, E3, A3, D3, -, st3⟩ := newO X0 hx hZ hown (hw _ (List.mem_of_getElem? (i := 92) rfl)) (hw _ (List.mem_of_getElem? (i := 93) rfl)) (hw _ (List.mem_of_getElem? (i := 90) rfl)) e0 (g := (mkF m 10 #[.val (.ref ac1)] [])) rfl (hb hby d_jdk_32_method_4_code_10) (by decide) (by decide)
    obtain ⟨b3, g3⟩ : ∃ z, z = h0.size := ⟨_, rfl⟩
    rw [← g3] at A3 D3 st3
    have X3 : Stand p l e ({ frames := 2, cells := 1, slots := 1, locals := 26 } : Room) s m _ below meth c T3 _ 1 1 := X3
    refine Ends.step st3 ?_
    show Ends _ _ _ _ (T3.setTop (mkF m 13 #[.val (.ref ac1)] [(.ref b3)]))
    refine Ends.step (fun t k => XS.dup X3.here hx rfl (hb hby d_jdk_32_method_4_code_13) rfl rfl k) ?_
    show Ends _ _ _ _ (T3.setTop (mkF m 14 #[.val (.ref ac1)] [(.ref b3), (.ref b3)]))
    refine Ends.step (fun t k => XS.aloadN X3.here hx rfl (hb hby d_jdk_32_method_4_code_14) rfl rfl k) ?_
    show Ends _ _ _ _ (T3.setTop (mkF m 15 #[.val (.ref ac1)] [(.ref ac1), (.ref b3), (.ref b3)]))
    have F4 : Old Z n0 h3 := (X00.ext E3)
    obtain ⟨_, _, ⟨T5, L5, k5, n5⟩, -, X5, ⟨Lc5, hQ5, l5, y5, z5⟩, st5⟩ := X3.specialBack hx (y := (⟨"java/util/Optional", "<init>", "(Ljava/lang/Object;)V"⟩ : MethodName)) rfl hown (mvT hZ (hw _ (List.mem_of_getElem? (i := 94) rfl))) (mvT hZ (hw _ (List.mem_of_getElem? (i := 95) rfl))) (mvT hZ (hw _ (List.mem_of_getElem? (i := 97) rfl))) (by decide) (backOf (W := 1) (rmOpI l Z a0 hw [] b3 (.ref ac1) h3 n0 (Nat.le_trans Z0 E3.1) G1 O2 P5 eA SE XE FE F4 rfl A3 (D3 (Or.inr (hw _ (List.mem_of_getElem? (i := 100) rfl))) pf_2) (Nat.le_trans (Nat.le_trans Z0 (Nat.le_refl _)) (Nat.le_of_eq g3.symm))) hZ (hw _ (List.mem_of_getElem? (i := 97) rfl)) (hw _ (List.mem_of_getElem? (i := 90) rfl)) (by decide) (by decide)) (g := (mkF m 15 #[.val (.ref ac1)] [(.ref ac1), (.ref b3), (.ref b3)])) rfl (by rw [hml]; rfl) (Steps.refl _) (a := b3) (argsL := [(.ref ac1)]) (rest := [(.ref b3)]) (lenOf pd_3 rfl) rfl (by show 2 * 0 + _ ≤ _; exact Nat.le_of_eq rfl) (hb hby d_jdk_32_method_4_code_15) (fun _ _ => ⟨rfl, e3, (by decide : 1 + 0 ≤ _), (by decide : 1 + 0 ≤ _)⟩)
    dsimp only [Pt.U, Pt.locs, Pt.cells, Pt.slots] at X5 l5 y5 z5 st5 hQ5
    have X5 : Stand p l e ({ frames := 2, cells := 1, slots := 1, locals := 26 } : Room) s m _ below meth c T5 L5 1 1 := own_reX X5 y5 z5
    obtain ⟨rfl, Nq5, K5, f5_0, f5_1⟩ := hQ5
    have N5 := own_frApp N0 Nq5 l5
    refine Ends.go st5 ?_
    have K6 : Keep h0 T5.heap [] := (((Keep.refl h0 []).ext E3).trans K5 (allS (Or.inr (Nat.le_trans (Nat.le_refl _) (Nat.le_of_eq g3.symm))) all0))
    show Ends _ _ _ _ (T5.setTop (mkF m 18 #[.val (.ref ac1)] [(.ref b3)]))
    exact own_finR X5 hx hlk Bd.returns rfl rfl (hb hby d_jdk_32_method_4_code_18) rfl ⟨b3, rfl, N5, ((Keep.refl h0 []).trans K6 all0), f5_0, f5_1⟩ (by decide) (by decide)
def QrmOpElG (Z : State) (a1 : Addr) (v1 : Value) (h0 : Heap) (n0 : Nat) (v : Option Value) (h : Heap) (L : List Loc) : Prop := v = some v1 ∧ Fr n0 L ∧ h = h0
theorem ef_rmOpElG (m : MethodId) (a1 : Addr)  : entryFrame m #[(.ref a1), .null] 2 = mkF m 0 #[.val (.ref a1), .val .null] [] := by first | (simp [entryFrame, mkF, argsToLocals, maxLocals, Value.category]; done) | rfl
set_option maxRecDepth 65536 in
set_option maxHeartbeats 40000000 in
theorem rmOpElG (l : Launch) (Z : State) (a0 : Array Value) (hw : ∀ d ∈ tables_1, d.before a0 Z = true) (ws : List Jvm.Cond) (a1 : Addr) (v1 : Value) (h0 : Heap) (n0 : Nat) (Z0 : n0 ≤ h0.size) (G1 : Int32) (O2 : Sta Z Z.heap "java/lang/String" "COMPACT_STRINGS" "Z" (.int G1)) (P5 : ¬ (G1 = (0 : Int32))) (eA : Addr) (SE : Sta Z Z.heap "java/util/Optional" "EMPTY" "Ljava/util/Optional;" (.ref eA)) (XE : Exa Z Z.heap eA "java/util/Optional") (FE : Fld Z Z.heap eA "java/util/Optional" "value" "Ljava/lang/Object;" .null) (X00 : Old Z n0 h0) (p_Fld_a1_value : Fld Z h0 a1 "java/util/Optional" "value" "Ljava/lang/Object;" v1) (r_v1 : Value.isRef v1 = true) :
    MetFree l (⟨"java/util/Optional", "orElse", "(Ljava/lang/Object;)Ljava/lang/Object;"⟩ : MethodName) (head1 (Jvm.Cond.code (⟨"java/util/Optional", "orElse", "(Ljava/lang/Object;)Ljava/lang/Object;"⟩ : MethodName) jdk_32_method_15_code 2 (Option.some (Jvm.ClassFile.FieldType.object "java/lang/Object")) :: ws) ({ frames := 0, cells := 0, slots := 0, locals := 0 } : Room)) (fun a U => a = #[(.ref a1), .null] ∧ Z.Warmed39 U.vm ∧ U.heap = h0) (fun _ _ _ _ _ => True) (fun _ U o U' => ∃ v L, o = .returned v ∧ QrmOpElG Z a1 v1 h0 n0 v U'.heap L ∧ FrameEnd U o U' L ({ frames := 0, cells := 0, slots := 0, locals := 0 } : Room).cells ({ frames := 0, cells := 0, slots := 0, locals := 0 } : Room).slots) := by
  refine MetFree.of_bodySF (plainFor_of_name pn_java_util_Optional) hisR ?_
  intro p e s m args below meth c s₁ Bd hml0 hP hK
  obtain ⟨rfl, hZ, hh⟩ := hP
  have hx := Bd.exec
  have hby := Bd.bytes
  have hml : c.maxLocals = 2 := hml0
  have hown : s.vm.findClass "java/util/Optional" = some m.cls := findClass_of_methodNamed Bd.named
  have hnm := (name_of_methodNamed Bd.named Bd.method).1
  have hlk : meth.locks = false := BodyLoose.notSynchronized Bd
  have X0 : Stand p l e ({ frames := 0, cells := 0, slots := 0, locals := 0 } : Room) s m #[(.ref a1), .null] below meth c s₁ [] 0 0 := Stand.of_body Bd
  have e0 : s₁.heap = h0 := by rw [← hh, Bd.state]; rfl
  have N0 := Fr.nil n0
  show Ends p.tables e below (fun o U' => ∃ v L, o = .returned v ∧ QrmOpElG Z a1 v1 h0 n0 v U'.heap L ∧ FrameEnd s o U' L ({ frames := 0, cells := 0, slots := 0, locals := 0 } : Room).cells ({ frames := 0, cells := 0, slots := 0, locals := 0 } : Room).slots) (s₁.setTop (entryFrame m #[(.ref a1), .null] 2))
  refine Ends.step (fun t k => castTop (ef_rmOpElG m a1 ) k) ?_
  show Ends _ _ _ _ (s₁.setTop (mkF m 0 #[.val (.ref a1), .val .null] []))
  refine Ends.step (fun t k => XS.aloadN X0.here hx rfl (hb hby d_jdk_32_method_15_code_0) rfl rfl k) ?_
  show Ends _ _ _ _ (s₁.setTop (mkF m 1 #[.val (.ref a1), .val .null] [(.ref a1)]))
  obtain ⟨T1, X1, e1, st1⟩ := getF X0 hx hZ hown (host := "") (Or.inl (hw _ (List.mem_of_getElem? (i := 99) rfl))) Via.refl e0 p_Fld_a1_value (g := (mkF m 1 #[.val (.ref a1), .val .null] [(.ref a1)])) rfl rfl (hb hby d_jdk_32_method_15_code_1)
  refine Ends.step st1 ?_
  show Ends _ _ _ _ (T1.setTop (mkF m 4 #[.val (.ref a1), .val .null] [v1]))
  rcases XT.refc r_v1 with rfl | ⟨ac2, rfl⟩
  · refine Ends.step (fun t k => XS.ifnullYes X1.here hx rfl (pc0 := 4) (pc' := 14) rfl (hb hby d_jdk_32_method_15_code_4) rfl (by decide) (by decide) k) ?_
    show Ends _ _ _ _ (T1.setTop (mkF m 14 #[.val (.ref a1), .val .null] []))
    refine Ends.step (fun t k => XS.aloadN X1.here hx rfl (hb hby d_jdk_32_method_15_code_14) rfl rfl k) ?_
    show Ends _ _ _ _ (T1.setTop (mkF m 15 #[.val (.ref a1), .val .null] [.null]))
    exact own_finR X1 hx hlk Bd.returns rfl rfl (hb hby d_jdk_32_method_15_code_15) e1 ⟨rfl, N0, rfl⟩ (by decide) (by decide)
  · refine Ends.step (fun t k => XS.ifnullNo X1.here hx rfl (hb hby d_jdk_32_method_15_code_4) rfl k) ?_
    show Ends _ _ _ _ (T1.setTop (mkF m 7 #[.val (.ref a1), .val .null] []))
    refine Ends.step (fun t k => XS.aloadN X1.here hx rfl (hb hby d_jdk_32_method_15_code_7) rfl rfl k) ?_
    show Ends _ _ _ _ (T1.setTop (mkF m 8 #[.val (.ref a1), .val .null] [(.ref a1)]))
    obtain ⟨T3, X3, e3, st3⟩ := getF X1 hx hZ hown (host := "") (Or.inl (hw _ (List.mem_of_getElem? (i := 99) rfl))) Via.refl e1 p_Fld_a1_value (g := (mkF m 8 #[.val (.ref a1), .val .null] [(.ref a1)])) rfl rfl (hb hby d_jdk_32_method_15_code_8)
    refine Ends.step st3 ?_
    show Ends _ _ _ _ (T3.setTop (mkF m 11 #[.val (.ref a1), .val .null] [(.ref ac2)]))
    refine Ends.step (fun t k => XS.goto X3.here hx rfl (pc0 := 11) (pc' := 15) rfl (hb hby d_jdk_32_method_15_code_11) (by decide) (by decide) k) ?_
    show Ends _ _ _ _ (T3.setTop (mkF m 15 #[.val (.ref a1), .val .null] [(.ref ac2)]))
    exact own_finR X3 hx hlk Bd.returns rfl rfl (hb hby d_jdk_32_method_15_code_15) e3 ⟨rfl, N0, rfl⟩ (by decide) (by decide)
def QrmOp_isPresent_n (Z : State) (a1 : Addr) (h0 : Heap) (n0 : Nat) (v : Option Value) (h : Heap) (L : List Loc) : Prop := v = some (.int (0 : Int32)) ∧ Fr n0 L ∧ h = h0
theorem ef_rmOp_isPresent_n (m : MethodId) (a1 : Addr)  : entryFrame m #[(.ref a1)] 1 = mkF m 0 #[.val (.ref a1)] [] := by first | (simp [entryFrame, mkF, argsToLocals, maxLocals, Value.category]; done) | rfl
set_option maxRecDepth 65536 in
set_option maxHeartbeats 40000000 in
theorem rmOp_isPresent_n (l : Launch) (Z : State) (a0 : Array Value) (hw : ∀ d ∈ tables_1, d.before a0 Z = true) (ws : List Jvm.Cond) (a1 : Addr) (h0 : Heap) (n0 : Nat) (Z0 : n0 ≤ h0.size) (G1 : Int32) (O2 : Sta Z Z.heap "java/lang/String" "COMPACT_STRINGS" "Z" (.int G1)) (P5 : ¬ (G1 = (0 : Int32))) (eA : Addr) (SE : Sta Z Z.heap "java/util/Optional" "EMPTY" "Ljava/util/Optional;" (.ref eA)) (XE : Exa Z Z.heap eA "java/util/Optional") (FE : Fld Z Z.heap eA "java/util/Optional" "value" "Ljava/lang/Object;" .null) (X00 : Old Z n0 h0) (p_Fld_a1_value : Fld Z h0 a1 "java/util/Optional" "value" "Ljava/lang/Object;" .null) :
    MetFree l (⟨"java/util/Optional", "isPresent", "()Z"⟩ : MethodName) (head1 (Jvm.Cond.code (⟨"java/util/Optional", "isPresent", "()Z"⟩ : MethodName) jdk_32_method_6_code 1 (Option.some Jvm.ClassFile.FieldType.boolean) :: ws) ({ frames := 0, cells := 0, slots := 0, locals := 0 } : Room)) (fun a U => a = #[(.ref a1)] ∧ Z.Warmed39 U.vm ∧ U.heap = h0) (fun _ _ _ _ _ => True) (fun _ U o U' => ∃ v L, o = .returned v ∧ QrmOp_isPresent_n Z a1 h0 n0 v U'.heap L ∧ FrameEnd U o U' L ({ frames := 0, cells := 0, slots := 0, locals := 0 } : Room).cells ({ frames := 0, cells := 0, slots := 0, locals := 0 } : Room).slots) := by
  refine MetFree.of_bodySF (plainFor_of_name pn_java_util_Optional) hisR ?_
  intro p e s m args below meth c s₁ Bd hml0 hP hK
  obtain ⟨rfl, hZ, hh⟩ := hP
  have hx := Bd.exec
  have hby := Bd.bytes
  have hml : c.maxLocals = 1 := hml0
  have hown : s.vm.findClass "java/util/Optional" = some m.cls := findClass_of_methodNamed Bd.named
  have hnm := (name_of_methodNamed Bd.named Bd.method).1
  have hlk : meth.locks = false := BodyLoose.notSynchronized Bd
  have X0 : Stand p l e ({ frames := 0, cells := 0, slots := 0, locals := 0 } : Room) s m #[(.ref a1)] below meth c s₁ [] 0 0 := Stand.of_body Bd
  have e0 : s₁.heap = h0 := by rw [← hh, Bd.state]; rfl
  have N0 := Fr.nil n0
  show Ends p.tables e below (fun o U' => ∃ v L, o = .returned v ∧ QrmOp_isPresent_n Z a1 h0 n0 v U'.heap L ∧ FrameEnd s o U' L ({ frames := 0, cells := 0, slots := 0, locals := 0 } : Room).cells ({ frames := 0, cells := 0, slots := 0, locals := 0 } : Room).slots) (s₁.setTop (entryFrame m #[(.ref a1)] 1))
  refine Ends.step (fun t k => castTop (ef_rmOp_isPresent_n m a1 ) k) ?_
  show Ends _ _ _ _ (s₁.setTop (mkF m 0 #[.val (.ref a1)] []))
  refine Ends.step (fun t k => XS.aloadN X0.here hx rfl (hb hby d_jdk_32_method_6_code_0) rfl rfl k) ?_
  show Ends _ _ _ _ (s₁.setTop (mkF m 1 #[.val (.ref a1)] [(.ref a1)]))
  obtain ⟨T1, X1, e1, st1⟩ := getF X0 hx hZ hown (host := "") (Or.inl (hw _ (List.mem_of_getElem? (i := 99) rfl))) Via.refl e0 p_Fld_a1_value (g := (mkF m 1 #[.val (.ref a1)] [(.ref a1)])) rfl rfl (hb hby d_jdk_32_method_6_code_1)
  refine Ends.step st1 ?_
  show Ends _ _ _ _ (T1.setTop (mkF m 4 #[.val (.ref a1)] [.null]))
  refine Ends.step (fun t k => XS.ifnullYes X1.here hx rfl (pc0 := 4) (pc' := 11) rfl (hb hby d_jdk_32_method_6_code_4) rfl (by decide) (by decide) k) ?_
  show Ends _ _ _ _ (T1.setTop (mkF m 11 #[.val (.ref a1)] []))
  refine Ends.step (fun t k => XS.iconst X1.here hx rfl (hb hby d_jdk_32_method_6_code_11) k) ?_
  show Ends _ _ _ _ (T1.setTop (mkF m 12 #[.val (.ref a1)] [(.int (0 : Int32))]))
  exact own_finI X1 hx hlk (t := .boolean) Bd.returns (by simp) rfl (hb hby d_jdk_32_method_6_code_12) e1 ⟨rfl, N0, rfl⟩ (by decide) (by decide)
def QrmOp_isPresent_r (Z : State) (a1 : Addr) (a2 : Addr) (h0 : Heap) (n0 : Nat) (v : Option Value) (h : Heap) (L : List Loc) : Prop := v = some (.int (1 : Int32)) ∧ Fr n0 L ∧ h = h0
theorem ef_rmOp_isPresent_r (m : MethodId) (a1 : Addr)  : entryFrame m #[(.ref a1)] 1 = mkF m 0 #[.val (.ref a1)] [] := by first | (simp [entryFrame, mkF, argsToLocals, maxLocals, Value.category]; done) | rfl
set_option maxRecDepth 65536 in
set_option maxHeartbeats 40000000 in
theorem rmOp_isPresent_r (l : Launch) (Z : State) (a0 : Array Value) (hw : ∀ d ∈ tables_1, d.before a0 Z = true) (ws : List Jvm.Cond) (a1 : Addr) (a2 : Addr) (h0 : Heap) (n0 : Nat) (Z0 : n0 ≤ h0.size) (G1 : Int32) (O2 : Sta Z Z.heap "java/lang/String" "COMPACT_STRINGS" "Z" (.int G1)) (P5 : ¬ (G1 = (0 : Int32))) (eA : Addr) (SE : Sta Z Z.heap "java/util/Optional" "EMPTY" "Ljava/util/Optional;" (.ref eA)) (XE : Exa Z Z.heap eA "java/util/Optional") (FE : Fld Z Z.heap eA "java/util/Optional" "value" "Ljava/lang/Object;" .null) (X00 : Old Z n0 h0) (p_Fld_a1_value : Fld Z h0 a1 "java/util/Optional" "value" "Ljava/lang/Object;" (.ref a2)) :
    MetFree l (⟨"java/util/Optional", "isPresent", "()Z"⟩ : MethodName) (head1 (Jvm.Cond.code (⟨"java/util/Optional", "isPresent", "()Z"⟩ : MethodName) jdk_32_method_6_code 1 (Option.some Jvm.ClassFile.FieldType.boolean) :: ws) ({ frames := 0, cells := 0, slots := 0, locals := 0 } : Room)) (fun a U => a = #[(.ref a1)] ∧ Z.Warmed39 U.vm ∧ U.heap = h0) (fun _ _ _ _ _ => True) (fun _ U o U' => ∃ v L, o = .returned v ∧ QrmOp_isPresent_r Z a1 a2 h0 n0 v U'.heap L ∧ FrameEnd U o U' L ({ frames := 0, cells := 0, slots := 0, locals := 0 } : Room).cells ({ frames := 0, cells := 0, slots := 0, locals := 0 } : Room).slots) := by
  refine MetFree.of_bodySF (plainFor_of_name pn_java_util_Optional) hisR ?_
  intro p e s m args below meth c s₁ Bd hml0 hP hK
  obtain ⟨rfl, hZ, hh⟩ := hP
  have hx := Bd.exec
  have hby := Bd.bytes
  have hml : c.maxLocals = 1 := hml0
  have hown : s.vm.findClass "java/util/Optional" = some m.cls := findClass_of_methodNamed Bd.named
  have hnm := (name_of_methodNamed Bd.named Bd.method).1
  have hlk : meth.locks = false := BodyLoose.notSynchronized Bd
  have X0 : Stand p l e ({ frames := 0, cells := 0, slots := 0, locals := 0 } : Room) s m #[(.ref a1)] below meth c s₁ [] 0 0 := Stand.of_body Bd
  have e0 : s₁.heap = h0 := by rw [← hh, Bd.state]; rfl
  have N0 := Fr.nil n0
  show Ends p.tables e below (fun o U' => ∃ v L, o = .returned v ∧ QrmOp_isPresent_r Z a1 a2 h0 n0 v U'.heap L ∧ FrameEnd s o U' L ({ frames := 0, cells := 0, slots := 0, locals := 0 } : Room).cells ({ frames := 0, cells := 0, slots := 0, locals := 0 } : Room).slots) (s₁.setTop (entryFrame m #[(.ref a1)] 1))
  refine Ends.step (fun t k => castTop (ef_rmOp_isPresent_r m a1 ) k) ?_
  show Ends _ _ _ _ (s₁.setTop (mkF m 0 #[.val (.ref a1)] []))
  refine Ends.step (fun t k => XS.aloadN X0.here hx rfl (hb hby d_jdk_32_method_6_code_0) rfl rfl k) ?_
  show Ends _ _ _ _ (s₁.setTop (mkF m 1 #[.val (.ref a1)] [(.ref a1)]))
  obtain ⟨T1, X1, e1, st1⟩ := getF X0 hx hZ hown (host := "") (Or.inl (hw _ (List.mem_of_getElem? (i := 99) rfl))) Via.refl e0 p_Fld_a1_value (g := (mkF m 1 #[.val (.ref a1)] [(.ref a1)])) rfl rfl (hb hby d_jdk_32_method_6_code_1)
  refine Ends.step st1 ?_
  show Ends _ _ _ _ (T1.setTop (mkF m 4 #[.val (.ref a1)] [(.ref a2)]))
  refine Ends.step (fun t k => XS.ifnullNo X1.here hx rfl (hb hby d_jdk_32_method_6_code_4) rfl k) ?_
  show Ends _ _ _ _ (T1.setTop (mkF m 7 #[.val (.ref a1)] []))
  refine Ends.step (fun t k => XS.iconst X1.here hx rfl (hb hby d_jdk_32_method_6_code_7) k) ?_
  show Ends _ _ _ _ (T1.setTop (mkF m 8 #[.val (.ref a1)] [(.int (1 : Int32))]))
  refine Ends.step (fun t k => XS.goto X1.here hx rfl (pc0 := 8) (pc' := 12) rfl (hb hby d_jdk_32_method_6_code_8) (by decide) (by decide) k) ?_
  show Ends _ _ _ _ (T1.setTop (mkF m 12 #[.val (.ref a1)] [(.int (1 : Int32))]))
  exact own_finI X1 hx hlk (t := .boolean) Bd.returns (by simp) rfl (hb hby d_jdk_32_method_6_code_12) e1 ⟨rfl, N0, rfl⟩ (by decide) (by decide)
def QrmStr (Z : State) (p1 : Int32) (h0 : Heap) (n0 : Nat) (v : Option Value) (h : Heap) (L : List Loc) : Prop := ∃ x : Addr, v = some (.ref x) ∧ Fr n0 L ∧ Keep h0 h [] ∧ (h0.size ≤ x) ∧ (Exa Z h x "java/lang/String")
theorem ef_rmStr (m : MethodId) (p1 : Int32)  : entryFrame m #[(.int p1)] 4 = mkF m 0 #[.val (.int p1), .unset, .unset, .unset] [] := by first | (simp [entryFrame, mkF, argsToLocals, maxLocals, Value.category]; done) | rfl
set_option maxRecDepth 65536 in
set_option maxHeartbeats 40000000 in
theorem rmStr (l : Launch) (Z : State) (a0 : Array Value) (hw : ∀ d ∈ tables_1, d.before a0 Z = true) (ws : List Jvm.Cond) (p1 : Int32) (h0 : Heap) (n0 : Nat) (Z0 : n0 ≤ h0.size) (G1 : Int32) (O2 : Sta Z Z.heap "java/lang/String" "COMPACT_STRINGS" "Z" (.int G1)) (P5 : ¬ (G1 = (0 : Int32))) (eA : Addr) (SE : Sta Z Z.heap "java/util/Optional" "EMPTY" "Ljava/util/Optional;" (.ref eA)) (XE : Exa Z Z.heap eA "java/util/Optional") (FE : Fld Z Z.heap eA "java/util/Optional" "value" "Ljava/lang/Object;" .null) (X00 : Old Z n0 h0)  :
    MetFree l (⟨"com/example/operatory/operatory/fhir/AlternativeOfReferencePinLaw", "str", "(I)Ljava/lang/String;"⟩ : MethodName) (head1 (Jvm.Cond.code (⟨"com/example/operatory/operatory/fhir/AlternativeOfReferencePinLaw", "str", "(I)Ljava/lang/String;"⟩ : MethodName) method_2_code 4 (Option.some (Jvm.ClassFile.FieldType.object "java/lang/String")) :: ws) ({ frames := 4, cells := 3, slots := 8, locals := 66 } : Room)) (fun a U => a = #[(.int p1)] ∧ Z.Warmed39 U.vm ∧ U.heap = h0) (fun _ _ _ _ _ => True) (fun _ U o U' => ∃ v L, o = .returned v ∧ QrmStr Z p1 h0 n0 v U'.heap L ∧ FrameEnd U o U' L ({ frames := 4, cells := 3, slots := 8, locals := 66 } : Room).cells ({ frames := 4, cells := 3, slots := 8, locals := 66 } : Room).slots) := by
  refine MetFree.of_bodySF (plainFor_of_name pn_com_example_operatory_operatory_fhir_AlternativeOfReferencePinLaw) hisR ?_
  intro p e s m args below meth c s₁ Bd hml0 hP hK
  obtain ⟨rfl, hZ, hh⟩ := hP
  have hx := Bd.exec
  have hby := Bd.bytes
  have hml : c.maxLocals = 4 := hml0
  have hown : s.vm.findClass "com/example/operatory/operatory/fhir/AlternativeOfReferencePinLaw" = some m.cls := findClass_of_methodNamed Bd.named
  have hnm := (name_of_methodNamed Bd.named Bd.method).1
  have hlk : meth.locks = false := BodyLoose.notSynchronized Bd
  have X0 : Stand p l e ({ frames := 4, cells := 3, slots := 8, locals := 66 } : Room) s m #[(.int p1)] below meth c s₁ [] 0 0 := Stand.of_body Bd
  have e0 : s₁.heap = h0 := by rw [← hh, Bd.state]; rfl
  have N0 := Fr.nil n0
  show Ends p.tables e below (fun o U' => ∃ v L, o = .returned v ∧ QrmStr Z p1 h0 n0 v U'.heap L ∧ FrameEnd s o U' L ({ frames := 4, cells := 3, slots := 8, locals := 66 } : Room).cells ({ frames := 4, cells := 3, slots := 8, locals := 66 } : Room).slots) (s₁.setTop (entryFrame m #[(.int p1)] 4))
  refine Ends.step (fun t k => castTop (ef_rmStr m p1 ) k) ?_
  show Ends _ _ _ _ (s₁.setTop (mkF m 0 #[.val (.int p1), .unset, .unset, .unset] []))
  refine Ends.step (fun t k => XS.iloadN X0.here hx rfl (hb hby d_method_2_code_0) rfl k) ?_
  show Ends _ _ _ _ (s₁.setTop (mkF m 1 #[.val (.int p1), .unset, .unset, .unset] [(.int p1)]))
  refine Ends.step (fun t k => XS.sipush X0.here hx rfl (hb hby d_method_2_code_1) k) ?_
  show Ends _ _ _ _ (s₁.setTop (mkF m 4 #[.val (.int p1), .unset, .unset, .unset] [(.int (255 : Int32)), (.int p1)]))
  refine Ends.step (fun t k => XS.iand X0.here hx rfl (hb hby d_method_2_code_4) rfl k) ?_
  show Ends _ _ _ _ (s₁.setTop (mkF m 5 #[.val (.int p1), .unset, .unset, .unset] [(.int (p1 &&& (255 : Int32)))]))
  refine Ends.step (fun t k => XS.i2c X0.here hx rfl (hb hby d_method_2_code_5) rfl k) ?_
  show Ends _ _ _ _ (s₁.setTop (mkF m 6 #[.val (.int p1), .unset, .unset, .unset] [(.int ((p1 &&& (255 : Int32)).toUInt32.toUInt16.toUInt32.toInt32))]))
  refine Ends.step (fun t k => XS.istoreN X0.here hx rfl (hb hby d_method_2_code_6) rfl (l' := #[.val (.int p1), .val (.int ((p1 &&& (255 : Int32)).toUInt32.toUInt16.toUInt32.toInt32)), .unset, .unset]) rfl k) ?_
  show Ends _ _ _ _ (s₁.setTop (mkF m 7 #[.val (.int p1), .val (.int ((p1 &&& (255 : Int32)).toUInt32.toUInt16.toUInt32.toInt32)), .unset, .unset] []))
  refine Ends.step (fun t k => XS.iloadN X0.here hx rfl (hb hby d_method_2_code_7) rfl k) ?_
  show Ends _ _ _ _ (s₁.setTop (mkF m 8 #[.val (.int p1), .val (.int ((p1 &&& (255 : Int32)).toUInt32.toUInt16.toUInt32.toInt32)), .unset, .unset] [(.int p1)]))
  refine Ends.step (fun t k => XS.bipush X0.here hx rfl (hb hby d_method_2_code_8) k) ?_
  show Ends _ _ _ _ (s₁.setTop (mkF m 10 #[.val (.int p1), .val (.int ((p1 &&& (255 : Int32)).toUInt32.toUInt16.toUInt32.toInt32)), .unset, .unset] [(.int (8 : Int32)), (.int p1)]))
  refine Ends.step (fun t k => XS.iushr X0.here hx rfl (hb hby d_method_2_code_10) rfl k) ?_
  show Ends _ _ _ _ (s₁.setTop (mkF m 11 #[.val (.int p1), .val (.int ((p1 &&& (255 : Int32)).toUInt32.toUInt16.toUInt32.toInt32)), .unset, .unset] [(.int ((p1.toUInt32 >>> ((8 : Int32) &&& 31).toUInt32).toInt32))]))
  refine Ends.step (fun t k => XS.sipush X0.here hx rfl (hb hby d_method_2_code_11) k) ?_
  show Ends _ _ _ _ (s₁.setTop (mkF m 14 #[.val (.int p1), .val (.int ((p1 &&& (255 : Int32)).toUInt32.toUInt16.toUInt32.toInt32)), .unset, .unset] [(.int (255 : Int32)), (.int ((p1.toUInt32 >>> ((8 : Int32) &&& 31).toUInt32).toInt32))]))
  refine Ends.step (fun t k => XS.iand X0.here hx rfl (hb hby d_method_2_code_14) rfl k) ?_
  show Ends _ _ _ _ (s₁.setTop (mkF m 15 #[.val (.int p1), .val (.int ((p1 &&& (255 : Int32)).toUInt32.toUInt16.toUInt32.toInt32)), .unset, .unset] [(.int (((p1.toUInt32 >>> ((8 : Int32) &&& 31).toUInt32).toInt32) &&& (255 : Int32)))]))
  refine Ends.step (fun t k => XS.i2c X0.here hx rfl (hb hby d_method_2_code_15) rfl k) ?_
  show Ends _ _ _ _ (s₁.setTop (mkF m 16 #[.val (.int p1), .val (.int ((p1 &&& (255 : Int32)).toUInt32.toUInt16.toUInt32.toInt32)), .unset, .unset] [(.int ((((p1.toUInt32 >>> ((8 : Int32) &&& 31).toUInt32).toInt32) &&& (255 : Int32)).toUInt32.toUInt16.toUInt32.toInt32))]))
  refine Ends.step (fun t k => XS.istoreN X0.here hx rfl (hb hby d_method_2_code_16) rfl (l' := #[.val (.int p1), .val (.int ((p1 &&& (255 : Int32)).toUInt32.toUInt16.toUInt32.toInt32)), .val (.int ((((p1.toUInt32 >>> ((8 : Int32) &&& 31).toUInt32).toInt32) &&& (255 : Int32)).toUInt32.toUInt16.toUInt32.toInt32)), .unset]) rfl k) ?_
  show Ends _ _ _ _ (s₁.setTop (mkF m 17 #[.val (.int p1), .val (.int ((p1 &&& (255 : Int32)).toUInt32.toUInt16.toUInt32.toInt32)), .val (.int ((((p1.toUInt32 >>> ((8 : Int32) &&& 31).toUInt32).toInt32) &&& (255 : Int32)).toUInt32.toUInt16.toUInt32.toInt32)), .unset] []))
  refine Ends.step (fun t k => XS.iloadN X0.here hx rfl (hb hby d_method_2_code_17) rfl k) ?_
  show Ends _ _ _ _ (s₁.setTop (mkF m 18 #[.val (.int p1), .val (.int ((p1 &&& (255 : Int32)).toUInt32.toUInt16.toUInt32.toInt32)), .val (.int ((((p1.toUInt32 >>> ((8 : Int32) &&& 31).toUInt32).toInt32) &&& (255 : Int32)).toUInt32.toUInt16.toUInt32.toInt32)), .unset] [(.int p1)]))
  refine Ends.step (fun t k => XS.bipush X0.here hx rfl (hb hby d_method_2_code_18) k) ?_
  show Ends _ _ _ _ (s₁.setTop (mkF m 20 #[.val (.int p1), .val (.int ((p1 &&& (255 : Int32)).toUInt32.toUInt16.toUInt32.toInt32)), .val (.int ((((p1.toUInt32 >>> ((8 : Int32) &&& 31).toUInt32).toInt32) &&& (255 : Int32)).toUInt32.toUInt16.toUInt32.toInt32)), .unset] [(.int (16 : Int32)), (.int p1)]))
  refine Ends.step (fun t k => XS.iushr X0.here hx rfl (hb hby d_method_2_code_20) rfl k) ?_
  show Ends _ _ _ _ (s₁.setTop (mkF m 21 #[.val (.int p1), .val (.int ((p1 &&& (255 : Int32)).toUInt32.toUInt16.toUInt32.toInt32)), .val (.int ((((p1.toUInt32 >>> ((8 : Int32) &&& 31).toUInt32).toInt32) &&& (255 : Int32)).toUInt32.toUInt16.toUInt32.toInt32)), .unset] [(.int ((p1.toUInt32 >>> ((16 : Int32) &&& 31).toUInt32).toInt32))]))
  refine Ends.step (fun t k => XS.iconst X0.here hx rfl (hb hby d_method_2_code_21) k) ?_
  show Ends _ _ _ _ (s₁.setTop (mkF m 22 #[.val (.int p1), .val (.int ((p1 &&& (255 : Int32)).toUInt32.toUInt16.toUInt32.toInt32)), .val (.int ((((p1.toUInt32 >>> ((8 : Int32) &&& 31).toUInt32).toInt32) &&& (255 : Int32)).toUInt32.toUInt16.toUInt32.toInt32)), .unset] [(.int (1 : Int32)), (.int ((p1.toUInt32 >>> ((16 : Int32) &&& 31).toUInt32).toInt32))]))
  refine Ends.step (fun t k => XS.iand X0.here hx rfl (hb hby d_method_2_code_22) rfl k) ?_
  show Ends _ _ _ _ (s₁.setTop (mkF m 23 #[.val (.int p1), .val (.int ((p1 &&& (255 : Int32)).toUInt32.toUInt16.toUInt32.toInt32)), .val (.int ((((p1.toUInt32 >>> ((8 : Int32) &&& 31).toUInt32).toInt32) &&& (255 : Int32)).toUInt32.toUInt16.toUInt32.toInt32)), .unset] [(.int (((p1.toUInt32 >>> ((16 : Int32) &&& 31).toUInt32).toInt32) &&& (1 : Int32)))]))
  by_cases c1 : (((p1.toUInt32 >>> ((16 : Int32) &&& 31).toUInt32).toInt32) &&& (1 : Int32)) = (0 : Int32)
  · refine Ends.step (fun t k => XS.ifYes X0.here hx rfl (pc0 := 23) (pc' := 31) rfl (hb hby d_method_2_code_23) rfl ((if0 _ _).trans (teq c1).1) (by decide) (by decide) k) ?_
    show Ends _ _ _ _ (s₁.setTop (mkF m 31 #[.val (.int p1), .val (.int ((p1 &&& (255 : Int32)).toUInt32.toUInt16.toUInt32.toInt32)), .val (.int ((((p1.toUInt32 >>> ((8 : Int32) &&& 31).toUInt32).toInt32) &&& (255 : Int32)).toUInt32.toUInt16.toUInt32.toInt32)), .unset] []))
    refine Ends.step (fun t k => XS.iconst X0.here hx rfl (hb hby d_method_2_code_31) k) ?_
    show Ends _ _ _ _ (s₁.setTop (mkF m 32 #[.val (.int p1), .val (.int ((p1 &&& (255 : Int32)).toUInt32.toUInt16.toUInt32.toInt32)), .val (.int ((((p1.toUInt32 >>> ((8 : Int32) &&& 31).toUInt32).toInt32) &&& (255 : Int32)).toUInt32.toUInt16.toUInt32.toInt32)), .unset] [(.int (2 : Int32))]))
    obtain ⟨T2, h2, k2, X2, e2, E2, A2, st2⟩ := newP X0 hx hZ (hw _ (List.mem_of_getElem? (i := 4) rfl)) e0 (g := (mkF m 32 #[.val (.int p1), .val (.int ((p1 &&& (255 : Int32)).toUInt32.toUInt16.toUInt32.toInt32)), .val (.int ((((p1.toUInt32 >>> ((8 : Int32) &&& 31).toUInt32).toInt32) &&& (255 : Int32)).toUInt32.toUInt16.toUInt32.toInt32)), .unset] [(.int (2 : Int32))])) rfl (hb hby d_method_2_code_32) rfl (by decide : ¬ ((2 : Int32) < (0 : Int32))) (cap := 2) (by decide) (by decide) (by decide) (by decide)
    obtain ⟨b2, g2⟩ : ∃ z, z = h0.size := ⟨_, rfl⟩
    rw [← g2] at A2 st2
    have X2 : Stand p l e ({ frames := 4, cells := 3, slots := 8, locals := 66 } : Room) s m _ below meth c T2 _ 1 2 := X2
    have V2 : Arv Z h2 b2 k2 .char (2 : Int32) [(.int (0 : Int32)), (.int (0 : Int32))] (.int (0 : Int32)) := (Arv.new A2 (by decide : ¬ ((2 : Int32) < (0 : Int32)))).pad (pad_rep [] (.int (0 : Int32)) 2)
    refine Ends.step st2 ?_
    show Ends _ _ _ _ (T2.setTop (mkF m 34 #[.val (.int p1), .val (.int ((p1 &&& (255 : Int32)).toUInt32.toUInt16.toUInt32.toInt32)), .val (.int ((((p1.toUInt32 >>> ((8 : Int32) &&& 31).toUInt32).toInt32) &&& (255 : Int32)).toUInt32.toUInt16.toUInt32.toInt32)), .unset] [(.ref b2)]))
    refine Ends.step (fun t k => XS.astoreN X2.here hx rfl (hb hby d_method_2_code_34) rfl rfl (l' := #[.val (.int p1), .val (.int ((p1 &&& (255 : Int32)).toUInt32.toUInt16.toUInt32.toInt32)), .val (.int ((((p1.toUInt32 >>> ((8 : Int32) &&& 31).toUInt32).toInt32) &&& (255 : Int32)).toUInt32.toUInt16.toUInt32.toInt32)), .val (.ref b2)]) rfl k) ?_
    show Ends _ _ _ _ (T2.setTop (mkF m 35 #[.val (.int p1), .val (.int ((p1 &&& (255 : Int32)).toUInt32.toUInt16.toUInt32.toInt32)), .val (.int ((((p1.toUInt32 >>> ((8 : Int32) &&& 31).toUInt32).toInt32) &&& (255 : Int32)).toUInt32.toUInt16.toUInt32.toInt32)), .val (.ref b2)] []))
    refine Ends.step (fun t k => XS.aloadN X2.here hx rfl (hb hby d_method_2_code_35) rfl rfl k) ?_
    show Ends _ _ _ _ (T2.setTop (mkF m 36 #[.val (.int p1), .val (.int ((p1 &&& (255 : Int32)).toUInt32.toUInt16.toUInt32.toInt32)), .val (.int ((((p1.toUInt32 >>> ((8 : Int32) &&& 31).toUInt32).toInt32) &&& (255 : Int32)).toUInt32.toUInt16.toUInt32.toInt32)), .val (.ref b2)] [(.ref b2)]))
    refine Ends.step (fun t k => XS.iconst X2.here hx rfl (hb hby d_method_2_code_36) k) ?_
    show Ends _ _ _ _ (T2.setTop (mkF m 37 #[.val (.int p1), .val (.int ((p1 &&& (255 : Int32)).toUInt32.toUInt16.toUInt32.toInt32)), .val (.int ((((p1.toUInt32 >>> ((8 : Int32) &&& 31).toUInt32).toInt32) &&& (255 : Int32)).toUInt32.toUInt16.toUInt32.toInt32)), .val (.ref b2)] [(.int (0 : Int32)), (.ref b2)]))
    refine Ends.step (fun t k => XS.iloadN X2.here hx rfl (hb hby d_method_2_code_37) rfl k) ?_
    show Ends _ _ _ _ (T2.setTop (mkF m 38 #[.val (.int p1), .val (.int ((p1 &&& (255 : Int32)).toUInt32.toUInt16.toUInt32.toInt32)), .val (.int ((((p1.toUInt32 >>> ((8 : Int32) &&& 31).toUInt32).toInt32) &&& (255 : Int32)).toUInt32.toUInt16.toUInt32.toInt32)), .val (.ref b2)] [(.int ((p1 &&& (255 : Int32)).toUInt32.toUInt16.toUInt32.toInt32)), (.int (0 : Int32)), (.ref b2)]))
    obtain ⟨cl3, Ar3, q3, S3, M3, H3, Gx3⟩ := V2
    obtain ⟨T4, h4, X4, e4, W4, st4⟩ := stC X2 hx hZ e2 Ar3 (j := (0 : Int32)) (inb_of S3 ⟨by decide, by decide⟩) (g := (mkF m 38 #[.val (.int p1), .val (.int ((p1 &&& (255 : Int32)).toUInt32.toUInt16.toUInt32.toInt32)), .val (.int ((((p1.toUInt32 >>> ((8 : Int32) &&& 31).toUInt32).toInt32) &&& (255 : Int32)).toUInt32.toUInt16.toUInt32.toInt32)), .val (.ref b2)] [(.int ((p1 &&& (255 : Int32)).toUInt32.toUInt16.toUInt32.toInt32)), (.int (0 : Int32)), (.ref b2)])) rfl rfl (hb hby d_method_2_code_38)
    have N4 := Fr.snoc X4 N0 (Nat.le_trans (Nat.le_trans Z0 (Nat.le_refl _)) (Nat.le_of_eq g2.symm))
    have V4 : Arv Z h4 b2 k2 .char (2 : Int32) [(.int (nar .char ((p1 &&& (255 : Int32)).toUInt32.toUInt16.toUInt32.toInt32))), (.int (0 : Int32))] (.int (0 : Int32)) := Arv.set Ar3 q3 S3 M3 H3 Gx3 (fits_nar_char _) W4 0 rfl (Nat.le_of_ble_eq_true rfl)
    refine Ends.step st4 ?_
    show Ends _ _ _ _ (T4.setTop (mkF m 39 #[.val (.int p1), .val (.int ((p1 &&& (255 : Int32)).toUInt32.toUInt16.toUInt32.toInt32)), .val (.int ((((p1.toUInt32 >>> ((8 : Int32) &&& 31).toUInt32).toInt32) &&& (255 : Int32)).toUInt32.toUInt16.toUInt32.toInt32)), .val (.ref b2)] []))
    refine Ends.step (fun t k => XS.aloadN X4.here hx rfl (hb hby d_method_2_code_39) rfl rfl k) ?_
    show Ends _ _ _ _ (T4.setTop (mkF m 40 #[.val (.int p1), .val (.int ((p1 &&& (255 : Int32)).toUInt32.toUInt16.toUInt32.toInt32)), .val (.int ((((p1.toUInt32 >>> ((8 : Int32) &&& 31).toUInt32).toInt32) &&& (255 : Int32)).toUInt32.toUInt16.toUInt32.toInt32)), .val (.ref b2)] [(.ref b2)]))
    refine Ends.step (fun t k => XS.iconst X4.here hx rfl (hb hby d_method_2_code_40) k) ?_
    show Ends _ _ _ _ (T4.setTop (mkF m 41 #[.val (.int p1), .val (.int ((p1 &&& (255 : Int32)).toUInt32.toUInt16.toUInt32.toInt32)), .val (.int ((((p1.toUInt32 >>> ((8 : Int32) &&& 31).toUInt32).toInt32) &&& (255 : Int32)).toUInt32.toUInt16.toUInt32.toInt32)), .val (.ref b2)] [(.int (1 : Int32)), (.ref b2)]))
    refine Ends.step (fun t k => XS.iloadN X4.here hx rfl (hb hby d_method_2_code_41) rfl k) ?_
    show Ends _ _ _ _ (T4.setTop (mkF m 42 #[.val (.int p1), .val (.int ((p1 &&& (255 : Int32)).toUInt32.toUInt16.toUInt32.toInt32)), .val (.int ((((p1.toUInt32 >>> ((8 : Int32) &&& 31).toUInt32).toInt32) &&& (255 : Int32)).toUInt32.toUInt16.toUInt32.toInt32)), .val (.ref b2)] [(.int ((((p1.toUInt32 >>> ((8 : Int32) &&& 31).toUInt32).toInt32) &&& (255 : Int32)).toUInt32.toUInt16.toUInt32.toInt32)), (.int (1 : Int32)), (.ref b2)]))
    obtain ⟨cl5, Ar5, q5, S5, M5, H5, Gx5⟩ := V4
    obtain ⟨T6, h6, X6, e6, W6, st6⟩ := stC X4 hx hZ e4 Ar5 (j := (1 : Int32)) (inb_of S5 ⟨by decide, by decide⟩) (g := (mkF m 42 #[.val (.int p1), .val (.int ((p1 &&& (255 : Int32)).toUInt32.toUInt16.toUInt32.toInt32)), .val (.int ((((p1.toUInt32 >>> ((8 : Int32) &&& 31).toUInt32).toInt32) &&& (255 : Int32)).toUInt32.toUInt16.toUInt32.toInt32)), .val (.ref b2)] [(.int ((((p1.toUInt32 >>> ((8 : Int32) &&& 31).toUInt32).toInt32) &&& (255 : Int32)).toUInt32.toUInt16.toUInt32.toInt32)), (.int (1 : Int32)), (.ref b2)])) rfl rfl (hb hby d_method_2_code_42)
    have N6 := Fr.snoc X6 N4 (Nat.le_trans (Nat.le_trans Z0 (Nat.le_refl _)) (Nat.le_of_eq g2.symm))
    have V6 : Arv Z h6 b2 k2 .char (2 : Int32) [(.int (nar .char ((p1 &&& (255 : Int32)).toUInt32.toUInt16.toUInt32.toInt32))), (.int (nar .char ((((p1.toUInt32 >>> ((8 : Int32) &&& 31).toUInt32).toInt32) &&& (255 : Int32)).toUInt32.toUInt16.toUInt32.toInt32)))] (.int (0 : Int32)) := Arv.set Ar5 q5 S5 M5 H5 Gx5 (fits_nar_char _) W6 1 rfl (Nat.le_of_ble_eq_true rfl)
    refine Ends.step st6 ?_
    show Ends _ _ _ _ (T6.setTop (mkF m 43 #[.val (.int p1), .val (.int ((p1 &&& (255 : Int32)).toUInt32.toUInt16.toUInt32.toInt32)), .val (.int ((((p1.toUInt32 >>> ((8 : Int32) &&& 31).toUInt32).toInt32) &&& (255 : Int32)).toUInt32.toUInt16.toUInt32.toInt32)), .val (.ref b2)] []))
    obtain ⟨T7, h7, X7, e7, E7, A7, D7, -, st7⟩ := newO X6 hx hZ hown (hw _ (List.mem_of_getElem? (i := 5) rfl)) (hw _ (List.mem_of_getElem? (i := 6) rfl)) (hw _ (List.mem_of_getElem? (i := 7) rfl)) e6 (g := (mkF m 43 #[.val (.int p1), .val (.int ((p1 &&& (255 : Int32)).toUInt32.toUInt16.toUInt32.toInt32)), .val (.int ((((p1.toUInt32 >>> ((8 : Int32) &&& 31).toUInt32).toInt32) &&& (255 : Int32)).toUInt32.toUInt16.toUInt32.toInt32)), .val (.ref b2)] [])) rfl (hb hby d_method_2_code_43) (by decide) (by decide)
    obtain ⟨b7, g7⟩ : ∃ z, z = h6.size := ⟨_, rfl⟩
    rw [← g7] at A7 D7 st7
    have X7 : Stand p l e ({ frames := 4, cells := 3, slots := 8, locals := 66 } : Room) s m _ below meth c T7 _ 2 6 := X7
    refine Ends.step st7 ?_
    show Ends _ _ _ _ (T7.setTop (mkF m 46 #[.val (.int p1), .val (.int ((p1 &&& (255 : Int32)).toUInt32.toUInt16.toUInt32.toInt32)), .val (.int ((((p1.toUInt32 >>> ((8 : Int32) &&& 31).toUInt32).toInt32) &&& (255 : Int32)).toUInt32.toUInt16.toUInt32.toInt32)), .val (.ref b2)] [(.ref b7)]))
    refine Ends.step (fun t k => XS.dup X7.here hx rfl (hb hby d_method_2_code_46) rfl rfl k) ?_
    show Ends _ _ _ _ (T7.setTop (mkF m 47 #[.val (.int p1), .val (.int ((p1 &&& (255 : Int32)).toUInt32.toUInt16.toUInt32.toInt32)), .val (.int ((((p1.toUInt32 >>> ((8 : Int32) &&& 31).toUInt32).toInt32) &&& (255 : Int32)).toUInt32.toUInt16.toUInt32.toInt32)), .val (.ref b2)] [(.ref b7), (.ref b7)]))
    refine Ends.step (fun t k => XS.aloadN X7.here hx rfl (hb hby d_method_2_code_47) rfl rfl k) ?_
    show Ends _ _ _ _ (T7.setTop (mkF m 48 #[.val (.int p1), .val (.int ((p1 &&& (255 : Int32)).toUInt32.toUInt16.toUInt32.toInt32)), .val (.int ((((p1.toUInt32 >>> ((8 : Int32) &&& 31).toUInt32).toInt32) &&& (255 : Int32)).toUInt32.toUInt16.toUInt32.toInt32)), .val (.ref b2)] [(.ref b2), (.ref b7), (.ref b7)]))
    have F8 : Arv Z h7 b2 k2 .char (2 : Int32) [(.int (nar .char ((p1 &&& (255 : Int32)).toUInt32.toUInt16.toUInt32.toInt32))), (.int (nar .char ((((p1.toUInt32 >>> ((8 : Int32) &&& 31).toUInt32).toInt32) &&& (255 : Int32)).toUInt32.toUInt16.toUInt32.toInt32)))] (.int (0 : Int32)) := (V6.ext E7)
    have F9 : Old Z n0 h7 := ((((X00.ext E2).wr W4 (Nat.le_trans (Nat.le_trans Z0 (Nat.le_refl _)) (Nat.le_of_eq g2.symm))).wr W6 (Nat.le_trans (Nat.le_trans Z0 (Nat.le_refl _)) (Nat.le_of_eq g2.symm))).ext E7)
    have hp10 : ∀ c ∈ ([(nar .char ((p1 &&& (255 : Int32)).toUInt32.toUInt16.toUInt32.toInt32)), (nar .char ((((p1.toUInt32 >>> ((8 : Int32) &&& 31).toUInt32).toInt32) &&& (255 : Int32)).toUInt32.toUInt16.toUInt32.toInt32))] : List Int32), ¬ c < 0 ∧ ¬ (255 : Int32) < c := (List.forall_mem_cons.mpr ⟨(own_and255 _), (List.forall_mem_cons.mpr ⟨(own_and255 _), (fun _ q => nomatch q)⟩)⟩)
    obtain ⟨_, _, ⟨T11, L11, k11, n11⟩, -, X11, ⟨Lc11, hQ11, l11, y11, z11⟩, st11⟩ := X7.specialBack hx (y := (⟨"java/lang/String", "<init>", "([C)V"⟩ : MethodName)) rfl hown (mvT hZ (hw _ (List.mem_of_getElem? (i := 8) rfl))) (mvT hZ (hw _ (List.mem_of_getElem? (i := 9) rfl))) (mvT hZ (hw _ (List.mem_of_getElem? (i := 10) rfl))) (by decide) (StrChars.Road.backV (W := 1) hZ (own_hws hw) (kI := 4) (hw _ (List.mem_of_getElem? (i := 6) rfl)) (cs := ([(nar .char ((p1 &&& (255 : Int32)).toUInt32.toUInt16.toUInt32.toInt32)), (nar .char ((((p1.toUInt32 >>> ((8 : Int32) &&& 31).toUInt32).toInt32) &&& (255 : Int32)).toUInt32.toUInt16.toUInt32.toInt32))] : List Int32)) (bs := ([(nar .char ((p1 &&& (255 : Int32)).toUInt32.toUInt16.toUInt32.toInt32)), (nar .char ((((p1.toUInt32 >>> ((8 : Int32) &&& 31).toUInt32).toInt32) &&& (255 : Int32)).toUInt32.toUInt16.toUInt32.toInt32))] : List Int32).map (fun c => c.toInt8.toInt32)) (n := 2) (Nat.le_trans (Nat.le_trans Z0 (Nat.le_trans (Nat.le_trans E2.1 (Nat.le_of_eq W4.size.symm)) (Nat.le_of_eq W6.size.symm))) (Nat.le_of_eq g7.symm)) (Nat.le_trans Z0 (Nat.le_trans (Nat.le_trans (Nat.le_trans E2.1 (Nat.le_of_eq W4.size.symm)) (Nat.le_of_eq W6.size.symm)) E7.1)) A7 (D7 (Or.inr (hw _ (List.mem_of_getElem? (i := 33) rfl))) pf_0) (D7 (Or.inr (hw _ (List.mem_of_getElem? (i := 31) rfl))) pf_1) F8 (O2.ext F9.2) P5 rfl rfl (by decide) (by decide) hp10 rfl (by decide) (by decide)) (g := (mkF m 48 #[.val (.int p1), .val (.int ((p1 &&& (255 : Int32)).toUInt32.toUInt16.toUInt32.toInt32)), .val (.int ((((p1.toUInt32 >>> ((8 : Int32) &&& 31).toUInt32).toInt32) &&& (255 : Int32)).toUInt32.toUInt16.toUInt32.toInt32)), .val (.ref b2)] [(.ref b2), (.ref b7), (.ref b7)])) rfl (by rw [hml]; rfl) (Steps.refl _) (a := b7) (argsL := [(.ref b2)]) (rest := [(.ref b7)]) (lenOf pd_4 rfl) rfl (by show 2 * 0 + _ ≤ _; exact Nat.le_of_eq rfl) (hb hby d_method_2_code_48) (fun _ _ => ⟨rfl, e7, (by decide : 2 + 1 ≤ _), (by decide : 6 + 2 ≤ _)⟩)
    dsimp only [Pt.U, Pt.locs, Pt.cells, Pt.slots] at X11 l11 y11 z11 st11 hQ11
    have X11 : Stand p l e ({ frames := 4, cells := 3, slots := 8, locals := 66 } : Room) s m _ below meth c T11 L11 3 8 := own_reX X11 y11 z11
    obtain ⟨rfl, Nq11, K11, E11, C11, t11, kb11, u11, ut11, un11, Vv11, Av11⟩ := hQ11
    have N11 := own_frApp N6 Nq11 l11
    refine Ends.go st11 ?_
    have K12 : Keep h0 T11.heap [] := ((((((Keep.refl h0 []).ext E2).wr W4 (Or.inr (Nat.le_trans (Nat.le_refl _) (Nat.le_of_eq g2.symm)))).wr W6 (Or.inr (Nat.le_trans (Nat.le_refl _) (Nat.le_of_eq g2.symm)))).ext E7).trans K11 (allS (Or.inr (Nat.le_trans (Nat.le_trans (Nat.le_trans E2.1 (Nat.le_of_eq W4.size.symm)) (Nat.le_of_eq W6.size.symm)) (Nat.le_of_eq g7.symm))) all0))
    show Ends _ _ _ _ (T11.setTop (mkF m 51 #[.val (.int p1), .val (.int ((p1 &&& (255 : Int32)).toUInt32.toUInt16.toUInt32.toInt32)), .val (.int ((((p1.toUInt32 >>> ((8 : Int32) &&& 31).toUInt32).toInt32) &&& (255 : Int32)).toUInt32.toUInt16.toUInt32.toInt32)), .val (.ref b2)] [(.ref b7)]))
    exact own_finR X11 hx hlk Bd.returns rfl rfl (hb hby d_method_2_code_51) rfl ⟨b7, rfl, N11, ((Keep.refl h0 []).trans K12 all0), (Nat.le_trans (Nat.le_trans (Nat.le_trans E2.1 (Nat.le_of_eq W4.size.symm)) (Nat.le_of_eq W6.size.symm)) (Nat.le_of_eq g7.symm)), E11⟩ (by decide) (by decide)
  · refine Ends.step (fun t k => XS.ifNo X0.here hx rfl (hb hby d_method_2_code_23) rfl ((if0 _ _).trans (feq c1).1) k) ?_
    show Ends _ _ _ _ (s₁.setTop (mkF m 26 #[.val (.int p1), .val (.int ((p1 &&& (255 : Int32)).toUInt32.toUInt16.toUInt32.toInt32)), .val (.int ((((p1.toUInt32 >>> ((8 : Int32) &&& 31).toUInt32).toInt32) &&& (255 : Int32)).toUInt32.toUInt16.toUInt32.toInt32)), .unset] []))
    refine Ends.step (fun t k => XS.iloadN X0.here hx rfl (hb hby d_method_2_code_26) rfl k) ?_
    show Ends _ _ _ _ (s₁.setTop (mkF m 27 #[.val (.int p1), .val (.int ((p1 &&& (255 : Int32)).toUInt32.toUInt16.toUInt32.toInt32)), .val (.int ((((p1.toUInt32 >>> ((8 : Int32) &&& 31).toUInt32).toInt32) &&& (255 : Int32)).toUInt32.toUInt16.toUInt32.toInt32)), .unset] [(.int ((p1 &&& (255 : Int32)).toUInt32.toUInt16.toUInt32.toInt32))]))
    obtain ⟨_, _, ⟨T13, L13, k13, n13⟩, -, X13, ⟨Lc13, hQ13, l13, y13, z13⟩, st13⟩ := Jvm.LawKit.callS X0 hx (y := (⟨"java/lang/String", "valueOf", "(C)Ljava/lang/String;"⟩ : MethodName)) hown (mvT hZ (hw _ (List.mem_of_getElem? (i := 167) rfl))) (mvT hZ (hw _ (List.mem_of_getElem? (i := 168) rfl))) (mvT hZ (hw _ (List.mem_of_getElem? (i := 7) rfl))) (mvT hZ (hw _ (List.mem_of_getElem? (i := 169) rfl))) (by decide) (backOf (W := 0) (rmVO l Z a0 hw [] ((p1 &&& (255 : Int32)).toUInt32.toUInt16.toUInt32.toInt32) h0 n0 Z0 G1 O2 P5 eA SE XE FE X00 (own_c255 _).2) hZ (hw _ (List.mem_of_getElem? (i := 169) rfl)) (hw _ (List.mem_of_getElem? (i := 7) rfl)) (by decide) (by decide)) (g := (mkF m 27 #[.val (.int p1), .val (.int ((p1 &&& (255 : Int32)).toUInt32.toUInt16.toUInt32.toInt32)), .val (.int ((((p1.toUInt32 >>> ((8 : Int32) &&& 31).toUInt32).toInt32) &&& (255 : Int32)).toUInt32.toUInt16.toUInt32.toInt32)), .unset] [(.int ((p1 &&& (255 : Int32)).toUInt32.toUInt16.toUInt32.toInt32))])) rfl (by rw [hml]; rfl) (argsL := [(.int ((p1 &&& (255 : Int32)).toUInt32.toUInt16.toUInt32.toInt32))]) (rest := []) (lenOf pd_5 rfl) rfl (by show 2 * 0 + _ ≤ _; exact Nat.le_of_eq rfl) (hb hby d_method_2_code_27) (fun _ _ => ⟨rfl, e0, (by decide : 0 + 2 ≤ _), (by decide : 0 + 5 ≤ _)⟩)
    dsimp only [Pt.U, Pt.locs, Pt.cells, Pt.slots] at X13 l13 y13 z13 st13 hQ13
    have X13 : Stand p l e ({ frames := 4, cells := 3, slots := 8, locals := 66 } : Room) s m _ below meth c T13 L13 2 5 := own_reX X13 y13 z13
    obtain ⟨x_13, rfl, Nq13, K13, f13_0, f13_1⟩ := hQ13
    have N13 := own_frApp N0 Nq13 l13
    refine Ends.step st13 ?_
    show Ends _ _ _ _ (T13.setTop (mkF m 30 #[.val (.int p1), .val (.int ((p1 &&& (255 : Int32)).toUInt32.toUInt16.toUInt32.toInt32)), .val (.int ((((p1.toUInt32 >>> ((8 : Int32) &&& 31).toUInt32).toInt32) &&& (255 : Int32)).toUInt32.toUInt16.toUInt32.toInt32)), .unset] [(.ref x_13)]))
    exact own_finR X13 hx hlk Bd.returns rfl rfl (hb hby d_method_2_code_30) rfl ⟨x_13, rfl, N13, ((Keep.refl h0 []).trans K13 all0), (Nat.le_trans (Nat.le_refl _) f13_0), f13_1⟩ (by decide) (by decide)
def QrmAltI (Z : State) (a1 : Addr) (v0 : Value) (v1 : Value) (v2 : Value) (v3 : Value) (v4 : Value) (v5 : Value) (v7 : Value) (v8 : Value) (v9 : Value) (v10 : Value) (v11 : Value) (v12 : Value) (h0 : Heap) (n0 : Nat) (v : Option Value) (h : Heap) (L : List Loc) : Prop := v = none ∧ Fr n0 L ∧ Keep h0 h [a1] ∧ (Exa Z h a1 "com/example/operatory/operatory/fhir/SearchValue$Alternative") ∧ (Fld Z h a1 "com/example/operatory/operatory/fhir/SearchValue$Alternative" "text" "Ljava/lang/String;" v0) ∧ (Fld Z h a1 "com/example/operatory/operatory/fhir/SearchValue$Alternative" "prefix" "Lcom/example/operatory/operatory/fhir/SearchValue$Prefix;" v1) ∧ (Fld Z h a1 "com/example/operatory/operatory/fhir/SearchValue$Alternative" "number" "Ljava/math/BigDecimal;" v2) ∧ (Fld Z h a1 "com/example/operatory/operatory/fhir/SearchValue$Alternative" "date" "Ljava/lang/String;" v3) ∧ (Fld Z h a1 "com/example/operatory/operatory/fhir/SearchValue$Alternative" "precision" "Lcom/example/operatory/operatory/fhir/SearchValue$Precision;" v4) ∧ (Fld Z h a1 "com/example/operatory/operatory/fhir/SearchValue$Alternative" "system" "Ljava/lang/String;" v5) ∧ (Fld Z h a1 "com/example/operatory/operatory/fhir/SearchValue$Alternative" "noSystem" "Z" (.int (0 : Int32))) ∧ (Fld Z h a1 "com/example/operatory/operatory/fhir/SearchValue$Alternative" "code" "Ljava/lang/String;" v7) ∧ (Fld Z h a1 "com/example/operatory/operatory/fhir/SearchValue$Alternative" "value" "Ljava/lang/String;" v8) ∧ (Fld Z h a1 "com/example/operatory/operatory/fhir/SearchValue$Alternative" "type" "Ljava/lang/String;" v9) ∧ (Fld Z h a1 "com/example/operatory/operatory/fhir/SearchValue$Alternative" "id" "Ljava/lang/String;" v10) ∧ (Fld Z h a1 "com/example/operatory/operatory/fhir/SearchValue$Alternative" "url" "Ljava/lang/String;" v11) ∧ (Fld Z h a1 "com/example/operatory/operatory/fhir/SearchValue$Alternative" "missing" "Ljava/lang/Boolean;" v12)
theorem ef_rmAltI (m : MethodId) (a1 : Addr) (v0 : Value) (v1 : Value) (v2 : Value) (v3 : Value) (v4 : Value) (v5 : Value) (v7 : Value) (v8 : Value) (v9 : Value) (v10 : Value) (v11 : Value) (v12 : Value) (r_v0 : Value.isRef v0 = true) (r_v1 : Value.isRef v1 = true) (r_v2 : Value.isRef v2 = true) (r_v3 : Value.isRef v3 = true) (r_v4 : Value.isRef v4 = true) (r_v5 : Value.isRef v5 = true) (r_v7 : Value.isRef v7 = true) (r_v8 : Value.isRef v8 = true) (r_v9 : Value.isRef v9 = true) (r_v10 : Value.isRef v10 = true) (r_v11 : Value.isRef v11 = true) (r_v12 : Value.isRef v12 = true) : entryFrame m #[(.ref a1), v0, v1, v2, v3, v4, v5, (.int (0 : Int32)), v7, v8, v9, v10, v11, v12] 14 = mkF m 0 #[.val (.ref a1), .val v0, .val v1, .val v2, .val v3, .val v4, .val v5, .val (.int (0 : Int32)), .val v7, .val v8, .val v9, .val v10, .val v11, .val v12] [] := by first | (simp [entryFrame, mkF, argsToLocals, maxLocals, own_cR, own_cI, own_cN, own_cJ, XT.cat1 r_v0, XT.cat1 r_v1, XT.cat1 r_v2, XT.cat1 r_v3, XT.cat1 r_v4, XT.cat1 r_v5, XT.cat1 r_v7, XT.cat1 r_v8, XT.cat1 r_v9, XT.cat1 r_v10, XT.cat1 r_v11, XT.cat1 r_v12]; done) | rfl
set_option maxRecDepth 65536 in
set_option maxHeartbeats 40000000 in
theorem rmAltI (l : Launch) (Z : State) (a0 : Array Value) (hw : ∀ d ∈ tables_1, d.before a0 Z = true) (ws : List Jvm.Cond) (a1 : Addr) (v0 : Value) (v1 : Value) (v2 : Value) (v3 : Value) (v4 : Value) (v5 : Value) (v7 : Value) (v8 : Value) (v9 : Value) (v10 : Value) (v11 : Value) (v12 : Value) (h0 : Heap) (n0 : Nat) (Z0 : n0 ≤ h0.size) (G1 : Int32) (O2 : Sta Z Z.heap "java/lang/String" "COMPACT_STRINGS" "Z" (.int G1)) (P5 : ¬ (G1 = (0 : Int32))) (eA : Addr) (SE : Sta Z Z.heap "java/util/Optional" "EMPTY" "Ljava/util/Optional;" (.ref eA)) (XE : Exa Z Z.heap eA "java/util/Optional") (FE : Fld Z Z.heap eA "java/util/Optional" "value" "Ljava/lang/Object;" .null) (X00 : Old Z n0 h0) (r_v0 : Value.isRef v0 = true) (r_v1 : Value.isRef v1 = true) (r_v2 : Value.isRef v2 = true) (r_v3 : Value.isRef v3 = true) (r_v4 : Value.isRef v4 = true) (r_v5 : Value.isRef v5 = true) (r_v7 : Value.isRef v7 = true) (r_v8 : Value.isRef v8 = true) (r_v9 : Value.isRef v9 = true) (r_v10 : Value.isRef v10 = true) (r_v11 : Value.isRef v11 = true) (r_v12 : Value.isRef v12 = true) (p_Exa_a1 : Exa Z h0 a1 "com/example/operatory/operatory/fhir/SearchValue$Alternative") (p_Fld_a1_text : Fld Z h0 a1 "com/example/operatory/operatory/fhir/SearchValue$Alternative" "text" "Ljava/lang/String;" .null) (p_Fld_a1_prefix : Fld Z h0 a1 "com/example/operatory/operatory/fhir/SearchValue$Alternative" "prefix" "Lcom/example/operatory/operatory/fhir/SearchValue$Prefix;" .null) (p_Fld_a1_number : Fld Z h0 a1 "com/example/operatory/operatory/fhir/SearchValue$Alternative" "number" "Ljava/math/BigDecimal;" .null) (p_Fld_a1_date : Fld Z h0 a1 "com/example/operatory/operatory/fhir/SearchValue$Alternative" "date" "Ljava/lang/String;" .null) (p_Fld_a1_precision : Fld Z h0 a1 "com/example/operatory/operatory/fhir/SearchValue$Alternative" "precision" "Lcom/example/operatory/operatory/fhir/SearchValue$Precision;" .null) (p_Fld_a1_system : Fld Z h0 a1 "com/example/operatory/operatory/fhir/SearchValue$Alternative" "system" "Ljava/lang/String;" .null) (p_Fld_a1_noSystem : Fld Z h0 a1 "com/example/operatory/operatory/fhir/SearchValue$Alternative" "noSystem" "Z" (.int (0 : Int32))) (p_Fld_a1_code : Fld Z h0 a1 "com/example/operatory/operatory/fhir/SearchValue$Alternative" "code" "Ljava/lang/String;" .null) (p_Fld_a1_value : Fld Z h0 a1 "com/example/operatory/operatory/fhir/SearchValue$Alternative" "value" "Ljava/lang/String;" .null) (p_Fld_a1_type : Fld Z h0 a1 "com/example/operatory/operatory/fhir/SearchValue$Alternative" "type" "Ljava/lang/String;" .null) (p_Fld_a1_id : Fld Z h0 a1 "com/example/operatory/operatory/fhir/SearchValue$Alternative" "id" "Ljava/lang/String;" .null) (p_Fld_a1_url : Fld Z h0 a1 "com/example/operatory/operatory/fhir/SearchValue$Alternative" "url" "Ljava/lang/String;" .null) (p_Fld_a1_missing : Fld Z h0 a1 "com/example/operatory/operatory/fhir/SearchValue$Alternative" "missing" "Ljava/lang/Boolean;" .null) (ge1 : n0 ≤ a1) :
    MetFree l (⟨"com/example/operatory/operatory/fhir/SearchValue$Alternative", "<init>", "(Ljava/lang/String;Lcom/example/operatory/operatory/fhir/SearchValue$Prefix;Ljava/math/BigDecimal;Ljava/lang/String;Lcom/example/operatory/operatory/fhir/SearchValue$Precision;Ljava/lang/String;ZLjava/lang/String;Ljava/lang/String;Ljava/lang/String;Ljava/lang/String;Ljava/lang/String;Ljava/lang/Boolean;)V"⟩ : MethodName) (head1 (Jvm.Cond.code (⟨"com/example/operatory/operatory/fhir/SearchValue$Alternative", "<init>", "(Ljava/lang/String;Lcom/example/operatory/operatory/fhir/SearchValue$Prefix;Ljava/math/BigDecimal;Ljava/lang/String;Lcom/example/operatory/operatory/fhir/SearchValue$Precision;Ljava/lang/String;ZLjava/lang/String;Ljava/lang/String;Ljava/lang/String;Ljava/lang/String;Ljava/lang/String;Ljava/lang/Boolean;)V"⟩ : MethodName) prog_5_method_1_code 14 (Option.none : Option Jvm.ClassFile.FieldType) :: ws) ({ frames := 1, cells := 0, slots := 0, locals := 12 } : Room)) (fun a U => a = #[(.ref a1), v0, v1, v2, v3, v4, v5, (.int (0 : Int32)), v7, v8, v9, v10, v11, v12] ∧ Z.Warmed39 U.vm ∧ U.heap = h0) (fun _ _ _ _ _ => True) (fun _ U o U' => ∃ v L, o = .returned v ∧ QrmAltI Z a1 v0 v1 v2 v3 v4 v5 v7 v8 v9 v10 v11 v12 h0 n0 v U'.heap L ∧ FrameEnd U o U' L ({ frames := 1, cells := 0, slots := 0, locals := 12 } : Room).cells ({ frames := 1, cells := 0, slots := 0, locals := 12 } : Room).slots) := by
  refine MetFree.of_bodySF (plainFor_of_name pn_com_example_operatory_operatory_fhir_SearchValue_Alternative) hisR ?_
  intro p e s m args below meth c s₁ Bd hml0 hP hK
  obtain ⟨rfl, hZ, hh⟩ := hP
  have hx := Bd.exec
  have hby := Bd.bytes
  have hml : c.maxLocals = 14 := hml0
  have hown : s.vm.findClass "com/example/operatory/operatory/fhir/SearchValue$Alternative" = some m.cls := findClass_of_methodNamed Bd.named
  have hnm := (name_of_methodNamed Bd.named Bd.method).1
  have hlk : meth.locks = false := BodyLoose.notSynchronized Bd
  have X0 : Stand p l e ({ frames := 1, cells := 0, slots := 0, locals := 12 } : Room) s m #[(.ref a1), v0, v1, v2, v3, v4, v5, (.int (0 : Int32)), v7, v8, v9, v10, v11, v12] below meth c s₁ [] 0 0 := Stand.of_body Bd
  have e0 : s₁.heap = h0 := by rw [← hh, Bd.state]; rfl
  have N0 := Fr.nil n0
  show Ends p.tables e below (fun o U' => ∃ v L, o = .returned v ∧ QrmAltI Z a1 v0 v1 v2 v3 v4 v5 v7 v8 v9 v10 v11 v12 h0 n0 v U'.heap L ∧ FrameEnd s o U' L ({ frames := 1, cells := 0, slots := 0, locals := 12 } : Room).cells ({ frames := 1, cells := 0, slots := 0, locals := 12 } : Room).slots) (s₁.setTop (entryFrame m #[(.ref a1), v0, v1, v2, v3, v4, v5, (.int (0 : Int32)), v7, v8, v9, v10, v11, v12] 14))
  refine Ends.step (fun t k => castTop (ef_rmAltI m a1 v0 v1 v2 v3 v4 v5 v7 v8 v9 v10 v11 v12 r_v0 r_v1 r_v2 r_v3 r_v4 r_v5 r_v7 r_v8 r_v9 r_v10 r_v11 r_v12) k) ?_
  show Ends _ _ _ _ (s₁.setTop (mkF m 0 #[.val (.ref a1), .val v0, .val v1, .val v2, .val v3, .val v4, .val v5, .val (.int (0 : Int32)), .val v7, .val v8, .val v9, .val v10, .val v11, .val v12] []))
  refine Ends.step (fun t k => XS.aloadN X0.here hx rfl (hb hby d_prog_5_method_1_code_0) rfl rfl k) ?_
  show Ends _ _ _ _ (s₁.setTop (mkF m 1 #[.val (.ref a1), .val v0, .val v1, .val v2, .val v3, .val v4, .val v5, .val (.int (0 : Int32)), .val v7, .val v8, .val v9, .val v10, .val v11, .val v12] [(.ref a1)]))
  obtain ⟨T1, X1, e1, st1⟩ := initO X0 hx hZ hown (hw _ (List.mem_of_getElem? (i := 43) rfl)) (hw _ (List.mem_of_getElem? (i := 16) rfl)) (hw _ (List.mem_of_getElem? (i := 17) rfl)) e0 (g := (mkF m 1 #[.val (.ref a1), .val v0, .val v1, .val v2, .val v3, .val v4, .val v5, .val (.int (0 : Int32)), .val v7, .val v8, .val v9, .val v10, .val v11, .val v12] [(.ref a1)])) rfl (by rw [hml]; rfl) rfl (hb hby d_prog_5_method_1_code_1) (by decide) (W := 0) (by show 2 * 0 + _ ≤ _; exact Nat.le_of_eq rfl) (by decide)
  refine Ends.step st1 ?_
  show Ends _ _ _ _ (T1.setTop (mkF m 4 #[.val (.ref a1), .val v0, .val v1, .val v2, .val v3, .val v4, .val v5, .val (.int (0 : Int32)), .val v7, .val v8, .val v9, .val v10, .val v11, .val v12] []))
  refine Ends.step (fun t k => XS.aloadN X1.here hx rfl (hb hby d_prog_5_method_1_code_4) rfl rfl k) ?_
  show Ends _ _ _ _ (T1.setTop (mkF m 5 #[.val (.ref a1), .val v0, .val v1, .val v2, .val v3, .val v4, .val v5, .val (.int (0 : Int32)), .val v7, .val v8, .val v9, .val v10, .val v11, .val v12] [(.ref a1)]))
  refine Ends.step (fun t k => XS.aloadN X1.here hx rfl (hb hby d_prog_5_method_1_code_5) rfl r_v0 k) ?_
  show Ends _ _ _ _ (T1.setTop (mkF m 6 #[.val (.ref a1), .val v0, .val v1, .val v2, .val v3, .val v4, .val v5, .val (.int (0 : Int32)), .val v7, .val v8, .val v9, .val v10, .val v11, .val v12] [v0, (.ref a1)]))
  obtain ⟨T2, h2, X2, e2, W2, st2⟩ := putF X1 hx hZ hown (host := "") (Or.inl (hw _ (List.mem_of_getElem? (i := 44) rfl))) Via.refl e1 p_Fld_a1_text p_Exa_a1 (Or.inr ⟨(hw _ (List.mem_of_getElem? (i := 45) rfl)), rfl, hnm⟩) (hw _ (List.mem_of_getElem? (i := 39) rfl)) pf_3 (own_narrow_ref r_v0 rfl) (own_fits_ref r_v0 rfl) (g := (mkF m 6 #[.val (.ref a1), .val v0, .val v1, .val v2, .val v3, .val v4, .val v5, .val (.int (0 : Int32)), .val v7, .val v8, .val v9, .val v10, .val v11, .val v12] [v0, (.ref a1)])) rfl rfl (hb hby d_prog_5_method_1_code_6)
  have N2 := Fr.snoc X2 N0 ge1
  have Fw2 : Fld Z h2 a1 "com/example/operatory/operatory/fhir/SearchValue$Alternative" "text" "Ljava/lang/String;" v0 := p_Fld_a1_text.same W2
  refine Ends.step st2 ?_
  show Ends _ _ _ _ (T2.setTop (mkF m 9 #[.val (.ref a1), .val v0, .val v1, .val v2, .val v3, .val v4, .val v5, .val (.int (0 : Int32)), .val v7, .val v8, .val v9, .val v10, .val v11, .val v12] []))
  refine Ends.step (fun t k => XS.aloadN X2.here hx rfl (hb hby d_prog_5_method_1_code_9) rfl rfl k) ?_
  show Ends _ _ _ _ (T2.setTop (mkF m 10 #[.val (.ref a1), .val v0, .val v1, .val v2, .val v3, .val v4, .val v5, .val (.int (0 : Int32)), .val v7, .val v8, .val v9, .val v10, .val v11, .val v12] [(.ref a1)]))
  refine Ends.step (fun t k => XS.aloadN X2.here hx rfl (hb hby d_prog_5_method_1_code_10) rfl r_v1 k) ?_
  show Ends _ _ _ _ (T2.setTop (mkF m 11 #[.val (.ref a1), .val v0, .val v1, .val v2, .val v3, .val v4, .val v5, .val (.int (0 : Int32)), .val v7, .val v8, .val v9, .val v10, .val v11, .val v12] [v1, (.ref a1)]))
  have F3 : Exa Z h2 a1 "com/example/operatory/operatory/fhir/SearchValue$Alternative" := (p_Exa_a1.wr W2)
  have F4 : Fld Z h2 a1 "com/example/operatory/operatory/fhir/SearchValue$Alternative" "prefix" "Lcom/example/operatory/operatory/fhir/SearchValue$Prefix;" .null := (p_Fld_a1_prefix.other W2 (Or.inr (sn_com_example_operatory_operatory_fhir_SearchValue_Alternative_prefix__text hw)))
  obtain ⟨T5, h5, X5, e5, W5, st5⟩ := putF X2 hx hZ hown (host := "") (Or.inl (hw _ (List.mem_of_getElem? (i := 46) rfl))) Via.refl e2 F4 F3 (Or.inr ⟨(hw _ (List.mem_of_getElem? (i := 47) rfl)), rfl, hnm⟩) (hw _ (List.mem_of_getElem? (i := 39) rfl)) pf_4 (own_narrow_ref r_v1 rfl) (own_fits_ref r_v1 rfl) (g := (mkF m 11 #[.val (.ref a1), .val v0, .val v1, .val v2, .val v3, .val v4, .val v5, .val (.int (0 : Int32)), .val v7, .val v8, .val v9, .val v10, .val v11, .val v12] [v1, (.ref a1)])) rfl rfl (hb hby d_prog_5_method_1_code_11)
  have N5 := Fr.snoc X5 N2 ge1
  have Fw5 : Fld Z h5 a1 "com/example/operatory/operatory/fhir/SearchValue$Alternative" "prefix" "Lcom/example/operatory/operatory/fhir/SearchValue$Prefix;" v1 := F4.same W5
  refine Ends.step st5 ?_
  show Ends _ _ _ _ (T5.setTop (mkF m 14 #[.val (.ref a1), .val v0, .val v1, .val v2, .val v3, .val v4, .val v5, .val (.int (0 : Int32)), .val v7, .val v8, .val v9, .val v10, .val v11, .val v12] []))
  refine Ends.step (fun t k => XS.aloadN X5.here hx rfl (hb hby d_prog_5_method_1_code_14) rfl rfl k) ?_
  show Ends _ _ _ _ (T5.setTop (mkF m 15 #[.val (.ref a1), .val v0, .val v1, .val v2, .val v3, .val v4, .val v5, .val (.int (0 : Int32)), .val v7, .val v8, .val v9, .val v10, .val v11, .val v12] [(.ref a1)]))
  refine Ends.step (fun t k => XS.aloadN X5.here hx rfl (hb hby d_prog_5_method_1_code_15) rfl r_v2 k) ?_
  show Ends _ _ _ _ (T5.setTop (mkF m 16 #[.val (.ref a1), .val v0, .val v1, .val v2, .val v3, .val v4, .val v5, .val (.int (0 : Int32)), .val v7, .val v8, .val v9, .val v10, .val v11, .val v12] [v2, (.ref a1)]))
  have F6 : Exa Z h5 a1 "com/example/operatory/operatory/fhir/SearchValue$Alternative" := (F3.wr W5)
  have F7 : Fld Z h5 a1 "com/example/operatory/operatory/fhir/SearchValue$Alternative" "number" "Ljava/math/BigDecimal;" .null := ((p_Fld_a1_number.other W2 (Or.inr (sn_com_example_operatory_operatory_fhir_SearchValue_Alternative_number__text hw))).other W5 (Or.inr (sn_com_example_operatory_operatory_fhir_SearchValue_Alternative_number__prefix hw)))
  obtain ⟨T8, h8, X8, e8, W8, st8⟩ := putF X5 hx hZ hown (host := "") (Or.inl (hw _ (List.mem_of_getElem? (i := 48) rfl))) Via.refl e5 F7 F6 (Or.inr ⟨(hw _ (List.mem_of_getElem? (i := 49) rfl)), rfl, hnm⟩) (hw _ (List.mem_of_getElem? (i := 39) rfl)) pf_5 (own_narrow_ref r_v2 rfl) (own_fits_ref r_v2 rfl) (g := (mkF m 16 #[.val (.ref a1), .val v0, .val v1, .val v2, .val v3, .val v4, .val v5, .val (.int (0 : Int32)), .val v7, .val v8, .val v9, .val v10, .val v11, .val v12] [v2, (.ref a1)])) rfl rfl (hb hby d_prog_5_method_1_code_16)
  have N8 := Fr.snoc X8 N5 ge1
  have Fw8 : Fld Z h8 a1 "com/example/operatory/operatory/fhir/SearchValue$Alternative" "number" "Ljava/math/BigDecimal;" v2 := F7.same W8
  refine Ends.step st8 ?_
  show Ends _ _ _ _ (T8.setTop (mkF m 19 #[.val (.ref a1), .val v0, .val v1, .val v2, .val v3, .val v4, .val v5, .val (.int (0 : Int32)), .val v7, .val v8, .val v9, .val v10, .val v11, .val v12] []))
  refine Ends.step (fun t k => XS.aloadN X8.here hx rfl (hb hby d_prog_5_method_1_code_19) rfl rfl k) ?_
  show Ends _ _ _ _ (T8.setTop (mkF m 20 #[.val (.ref a1), .val v0, .val v1, .val v2, .val v3, .val v4, .val v5, .val (.int (0 : Int32)), .val v7, .val v8, .val v9, .val v10, .val v11, .val v12] [(.ref a1)]))
  refine Ends.step (fun t k => XS.aload X8.here hx rfl (hb hby d_prog_5_method_1_code_20) rfl r_v3 k) ?_
  show Ends _ _ _ _ (T8.setTop (mkF m 22 #[.val (.ref a1), .val v0, .val v1, .val v2, .val v3, .val v4, .val v5, .val (.int (0 : Int32)), .val v7, .val v8, .val v9, .val v10, .val v11, .val v12] [v3, (.ref a1)]))
  have F9 : Exa Z h8 a1 "com/example/operatory/operatory/fhir/SearchValue$Alternative" := (F6.wr W8)
  have F10 : Fld Z h8 a1 "com/example/operatory/operatory/fhir/SearchValue$Alternative" "date" "Ljava/lang/String;" .null := (((p_Fld_a1_date.other W2 (Or.inr (sn_com_example_operatory_operatory_fhir_SearchValue_Alternative_date__text hw))).other W5 (Or.inr (sn_com_example_operatory_operatory_fhir_SearchValue_Alternative_date__prefix hw))).other W8 (Or.inr (sn_com_example_operatory_operatory_fhir_SearchValue_Alternative_date__number hw)))
  obtain ⟨T11, h11, X11, e11, W11, st11⟩ := putF X8 hx hZ hown (host := "") (Or.inl (hw _ (List.mem_of_getElem? (i := 50) rfl))) Via.refl e8 F10 F9 (Or.inr ⟨(hw _ (List.mem_of_getElem? (i := 51) rfl)), rfl, hnm⟩) (hw _ (List.mem_of_getElem? (i := 39) rfl)) pf_3 (own_narrow_ref r_v3 rfl) (own_fits_ref r_v3 rfl) (g := (mkF m 22 #[.val (.ref a1), .val v0, .val v1, .val v2, .val v3, .val v4, .val v5, .val (.int (0 : Int32)), .val v7, .val v8, .val v9, .val v10, .val v11, .val v12] [v3, (.ref a1)])) rfl rfl (hb hby d_prog_5_method_1_code_22)
  have N11 := Fr.snoc X11 N8 ge1
  have Fw11 : Fld Z h11 a1 "com/example/operatory/operatory/fhir/SearchValue$Alternative" "date" "Ljava/lang/String;" v3 := F10.same W11
  refine Ends.step st11 ?_
  show Ends _ _ _ _ (T11.setTop (mkF m 25 #[.val (.ref a1), .val v0, .val v1, .val v2, .val v3, .val v4, .val v5, .val (.int (0 : Int32)), .val v7, .val v8, .val v9, .val v10, .val v11, .val v12] []))
  refine Ends.step (fun t k => XS.aloadN X11.here hx rfl (hb hby d_prog_5_method_1_code_25) rfl rfl k) ?_
  show Ends _ _ _ _ (T11.setTop (mkF m 26 #[.val (.ref a1), .val v0, .val v1, .val v2, .val v3, .val v4, .val v5, .val (.int (0 : Int32)), .val v7, .val v8, .val v9, .val v10, .val v11, .val v12] [(.ref a1)]))
  refine Ends.step (fun t k => XS.aload X11.here hx rfl (hb hby d_prog_5_method_1_code_26) rfl r_v4 k) ?_
  show Ends _ _ _ _ (T11.setTop (mkF m 28 #[.val (.ref a1), .val v0, .val v1, .val v2, .val v3, .val v4, .val v5, .val (.int (0 : Int32)), .val v7, .val v8, .val v9, .val v10, .val v11, .val v12] [v4, (.ref a1)]))
  have F12 : Exa Z h11 a1 "com/example/operatory/operatory/fhir/SearchValue$Alternative" := (F9.wr W11)
  have F13 : Fld Z h11 a1 "com/example/operatory/operatory/fhir/SearchValue$Alternative" "precision" "Lcom/example/operatory/operatory/fhir/SearchValue$Precision;" .null := ((((p_Fld_a1_precision.other W2 (Or.inr (sn_com_example_operatory_operatory_fhir_SearchValue_Alternative_precision__text hw))).other W5 (Or.inr (sn_com_example_operatory_operatory_fhir_SearchValue_Alternative_precision__prefix hw))).other W8 (Or.inr (sn_com_example_operatory_operatory_fhir_SearchValue_Alternative_precision__number hw))).other W11 (Or.inr (sn_com_example_operatory_operatory_fhir_SearchValue_Alternative_precision__date hw)))
  obtain ⟨T14, h14, X14, e14, W14, st14⟩ := putF X11 hx hZ hown (host := "") (Or.inl (hw _ (List.mem_of_getElem? (i := 52) rfl))) Via.refl e11 F13 F12 (Or.inr ⟨(hw _ (List.mem_of_getElem? (i := 53) rfl)), rfl, hnm⟩) (hw _ (List.mem_of_getElem? (i := 39) rfl)) pf_6 (own_narrow_ref r_v4 rfl) (own_fits_ref r_v4 rfl) (g := (mkF m 28 #[.val (.ref a1), .val v0, .val v1, .val v2, .val v3, .val v4, .val v5, .val (.int (0 : Int32)), .val v7, .val v8, .val v9, .val v10, .val v11, .val v12] [v4, (.ref a1)])) rfl rfl (hb hby d_prog_5_method_1_code_28)
  have N14 := Fr.snoc X14 N11 ge1
  have Fw14 : Fld Z h14 a1 "com/example/operatory/operatory/fhir/SearchValue$Alternative" "precision" "Lcom/example/operatory/operatory/fhir/SearchValue$Precision;" v4 := F13.same W14
  refine Ends.step st14 ?_
  show Ends _ _ _ _ (T14.setTop (mkF m 31 #[.val (.ref a1), .val v0, .val v1, .val v2, .val v3, .val v4, .val v5, .val (.int (0 : Int32)), .val v7, .val v8, .val v9, .val v10, .val v11, .val v12] []))
  refine Ends.step (fun t k => XS.aloadN X14.here hx rfl (hb hby d_prog_5_method_1_code_31) rfl rfl k) ?_
  show Ends _ _ _ _ (T14.setTop (mkF m 32 #[.val (.ref a1), .val v0, .val v1, .val v2, .val v3, .val v4, .val v5, .val (.int (0 : Int32)), .val v7, .val v8, .val v9, .val v10, .val v11, .val v12] [(.ref a1)]))
  refine Ends.step (fun t k => XS.aload X14.here hx rfl (hb hby d_prog_5_method_1_code_32) rfl r_v5 k) ?_
  show Ends _ _ _ _ (T14.setTop (mkF m 34 #[.val (.ref a1), .val v0, .val v1, .val v2, .val v3, .val v4, .val v5, .val (.int (0 : Int32)), .val v7, .val v8, .val v9, .val v10, .val v11, .val v12] [v5, (.ref a1)]))
  have F15 : Exa Z h14 a1 "com/example/operatory/operatory/fhir/SearchValue$Alternative" := (F12.wr W14)
  have F16 : Fld Z h14 a1 "com/example/operatory/operatory/fhir/SearchValue$Alternative" "system" "Ljava/lang/String;" .null := (((((p_Fld_a1_system.other W2 (Or.inr (sn_com_example_operatory_operatory_fhir_SearchValue_Alternative_system__text hw))).other W5 (Or.inr (sn_com_example_operatory_operatory_fhir_SearchValue_Alternative_system__prefix hw))).other W8 (Or.inr (sn_com_example_operatory_operatory_fhir_SearchValue_Alternative_system__number hw))).other W11 (Or.inr (sn_com_example_operatory_operatory_fhir_SearchValue_Alternative_system__date hw))).other W14 (Or.inr (sn_com_example_operatory_operatory_fhir_SearchValue_Alternative_system__precision hw)))
  obtain ⟨T17, h17, X17, e17, W17, st17⟩ := putF X14 hx hZ hown (host := "") (Or.inl (hw _ (List.mem_of_getElem? (i := 54) rfl))) Via.refl e14 F16 F15 (Or.inr ⟨(hw _ (List.mem_of_getElem? (i := 55) rfl)), rfl, hnm⟩) (hw _ (List.mem_of_getElem? (i := 39) rfl)) pf_3 (own_narrow_ref r_v5 rfl) (own_fits_ref r_v5 rfl) (g := (mkF m 34 #[.val (.ref a1), .val v0, .val v1, .val v2, .val v3, .val v4, .val v5, .val (.int (0 : Int32)), .val v7, .val v8, .val v9, .val v10, .val v11, .val v12] [v5, (.ref a1)])) rfl rfl (hb hby d_prog_5_method_1_code_34)
  have N17 := Fr.snoc X17 N14 ge1
  have Fw17 : Fld Z h17 a1 "com/example/operatory/operatory/fhir/SearchValue$Alternative" "system" "Ljava/lang/String;" v5 := F16.same W17
  refine Ends.step st17 ?_
  show Ends _ _ _ _ (T17.setTop (mkF m 37 #[.val (.ref a1), .val v0, .val v1, .val v2, .val v3, .val v4, .val v5, .val (.int (0 : Int32)), .val v7, .val v8, .val v9, .val v10, .val v11, .val v12] []))
  refine Ends.step (fun t k => XS.aloadN X17.here hx rfl (hb hby d_prog_5_method_1_code_37) rfl rfl k) ?_
  show Ends _ _ _ _ (T17.setTop (mkF m 38 #[.val (.ref a1), .val v0, .val v1, .val v2, .val v3, .val v4, .val v5, .val (.int (0 : Int32)), .val v7, .val v8, .val v9, .val v10, .val v11, .val v12] [(.ref a1)]))
  refine Ends.step (fun t k => XS.iload X17.here hx rfl (hb hby d_prog_5_method_1_code_38) rfl k) ?_
  show Ends _ _ _ _ (T17.setTop (mkF m 40 #[.val (.ref a1), .val v0, .val v1, .val v2, .val v3, .val v4, .val v5, .val (.int (0 : Int32)), .val v7, .val v8, .val v9, .val v10, .val v11, .val v12] [(.int (0 : Int32)), (.ref a1)]))
  have F18 : Exa Z h17 a1 "com/example/operatory/operatory/fhir/SearchValue$Alternative" := (F15.wr W17)
  have F19 : Fld Z h17 a1 "com/example/operatory/operatory/fhir/SearchValue$Alternative" "noSystem" "Z" (.int (0 : Int32)) := ((((((p_Fld_a1_noSystem.other W2 (Or.inr (sn_com_example_operatory_operatory_fhir_SearchValue_Alternative_noSystem__text hw))).other W5 (Or.inr (sn_com_example_operatory_operatory_fhir_SearchValue_Alternative_noSystem__prefix hw))).other W8 (Or.inr (sn_com_example_operatory_operatory_fhir_SearchValue_Alternative_noSystem__number hw))).other W11 (Or.inr (sn_com_example_operatory_operatory_fhir_SearchValue_Alternative_noSystem__date hw))).other W14 (Or.inr (sn_com_example_operatory_operatory_fhir_SearchValue_Alternative_noSystem__precision hw))).other W17 (Or.inr (sn_com_example_operatory_operatory_fhir_SearchValue_Alternative_noSystem__system hw)))
  obtain ⟨T20, h20, X20, e20, W20, st20⟩ := putF X17 hx hZ hown (host := "") (Or.inl (hw _ (List.mem_of_getElem? (i := 56) rfl))) Via.refl e17 F19 F18 (Or.inr ⟨(hw _ (List.mem_of_getElem? (i := 57) rfl)), rfl, hnm⟩) (hw _ (List.mem_of_getElem? (i := 39) rfl)) pf_7 rfl rfl (g := (mkF m 40 #[.val (.ref a1), .val v0, .val v1, .val v2, .val v3, .val v4, .val v5, .val (.int (0 : Int32)), .val v7, .val v8, .val v9, .val v10, .val v11, .val v12] [(.int (0 : Int32)), (.ref a1)])) rfl rfl (hb hby d_prog_5_method_1_code_40)
  have N20 := Fr.snoc X20 N17 ge1
  have Fw20 : Fld Z h20 a1 "com/example/operatory/operatory/fhir/SearchValue$Alternative" "noSystem" "Z" (.int (0 : Int32)) := F19.same W20
  refine Ends.step st20 ?_
  show Ends _ _ _ _ (T20.setTop (mkF m 43 #[.val (.ref a1), .val v0, .val v1, .val v2, .val v3, .val v4, .val v5, .val (.int (0 : Int32)), .val v7, .val v8, .val v9, .val v10, .val v11, .val v12] []))
  refine Ends.step (fun t k => XS.aloadN X20.here hx rfl (hb hby d_prog_5_method_1_code_43) rfl rfl k) ?_
  show Ends _ _ _ _ (T20.setTop (mkF m 44 #[.val (.ref a1), .val v0, .val v1, .val v2, .val v3, .val v4, .val v5, .val (.int (0 : Int32)), .val v7, .val v8, .val v9, .val v10, .val v11, .val v12] [(.ref a1)]))
  refine Ends.step (fun t k => XS.aload X20.here hx rfl (hb hby d_prog_5_method_1_code_44) rfl r_v7 k) ?_
  show Ends _ _ _ _ (T20.setTop (mkF m 46 #[.val (.ref a1), .val v0, .val v1, .val v2, .val v3, .val v4, .val v5, .val (.int (0 : Int32)), .val v7, .val v8, .val v9, .val v10, .val v11, .val v12] [v7, (.ref a1)]))
  have F21 : Exa Z h20 a1 "com/example/operatory/operatory/fhir/SearchValue$Alternative" := (F18.wr W20)
  have F22 : Fld Z h20 a1 "com/example/operatory/operatory/fhir/SearchValue$Alternative" "code" "Ljava/lang/String;" .null := (((((((p_Fld_a1_code.other W2 (Or.inr (sn_com_example_operatory_operatory_fhir_SearchValue_Alternative_code__text hw))).other W5 (Or.inr (sn_com_example_operatory_operatory_fhir_SearchValue_Alternative_code__prefix hw))).other W8 (Or.inr (sn_com_example_operatory_operatory_fhir_SearchValue_Alternative_code__number hw))).other W11 (Or.inr (sn_com_example_operatory_operatory_fhir_SearchValue_Alternative_code__date hw))).other W14 (Or.inr (sn_com_example_operatory_operatory_fhir_SearchValue_Alternative_code__precision hw))).other W17 (Or.inr (sn_com_example_operatory_operatory_fhir_SearchValue_Alternative_code__system hw))).other W20 (Or.inr (sn_com_example_operatory_operatory_fhir_SearchValue_Alternative_code__noSystem hw)))
  obtain ⟨T23, h23, X23, e23, W23, st23⟩ := putF X20 hx hZ hown (host := "") (Or.inl (hw _ (List.mem_of_getElem? (i := 58) rfl))) Via.refl e20 F22 F21 (Or.inr ⟨(hw _ (List.mem_of_getElem? (i := 59) rfl)), rfl, hnm⟩) (hw _ (List.mem_of_getElem? (i := 39) rfl)) pf_3 (own_narrow_ref r_v7 rfl) (own_fits_ref r_v7 rfl) (g := (mkF m 46 #[.val (.ref a1), .val v0, .val v1, .val v2, .val v3, .val v4, .val v5, .val (.int (0 : Int32)), .val v7, .val v8, .val v9, .val v10, .val v11, .val v12] [v7, (.ref a1)])) rfl rfl (hb hby d_prog_5_method_1_code_46)
  have N23 := Fr.snoc X23 N20 ge1
  have Fw23 : Fld Z h23 a1 "com/example/operatory/operatory/fhir/SearchValue$Alternative" "code" "Ljava/lang/String;" v7 := F22.same W23
  refine Ends.step st23 ?_
  show Ends _ _ _ _ (T23.setTop (mkF m 49 #[.val (.ref a1), .val v0, .val v1, .val v2, .val v3, .val v4, .val v5, .val (.int (0 : Int32)), .val v7, .val v8, .val v9, .val v10, .val v11, .val v12] []))
  refine Ends.step (fun t k => XS.aloadN X23.here hx rfl (hb hby d_prog_5_method_1_code_49) rfl rfl k) ?_
  show Ends _ _ _ _ (T23.setTop (mkF m 50 #[.val (.ref a1), .val v0, .val v1, .val v2, .val v3, .val v4, .val v5, .val (.int (0 : Int32)), .val v7, .val v8, .val v9, .val v10, .val v11, .val v12] [(.ref a1)]))
  refine Ends.step (fun t k => XS.aload X23.here hx rfl (hb hby d_prog_5_method_1_code_50) rfl r_v8 k) ?_
  show Ends _ _ _ _ (T23.setTop (mkF m 52 #[.val (.ref a1), .val v0, .val v1, .val v2, .val v3, .val v4, .val v5, .val (.int (0 : Int32)), .val v7, .val v8, .val v9, .val v10, .val v11, .val v12] [v8, (.ref a1)]))
  have F24 : Exa Z h23 a1 "com/example/operatory/operatory/fhir/SearchValue$Alternative" := (F21.wr W23)
  have F25 : Fld Z h23 a1 "com/example/operatory/operatory/fhir/SearchValue$Alternative" "value" "Ljava/lang/String;" .null := ((((((((p_Fld_a1_value.other W2 (Or.inr (sn_com_example_operatory_operatory_fhir_SearchValue_Alternative_value__text hw))).other W5 (Or.inr (sn_com_example_operatory_operatory_fhir_SearchValue_Alternative_value__prefix hw))).other W8 (Or.inr (sn_com_example_operatory_operatory_fhir_SearchValue_Alternative_value__number hw))).other W11 (Or.inr (sn_com_example_operatory_operatory_fhir_SearchValue_Alternative_value__date hw))).other W14 (Or.inr (sn_com_example_operatory_operatory_fhir_SearchValue_Alternative_value__precision hw))).other W17 (Or.inr (sn_com_example_operatory_operatory_fhir_SearchValue_Alternative_value__system hw))).other W20 (Or.inr (sn_com_example_operatory_operatory_fhir_SearchValue_Alternative_value__noSystem hw))).other W23 (Or.inr (sn_com_example_operatory_operatory_fhir_SearchValue_Alternative_value__code hw)))
  obtain ⟨T26, h26, X26, e26, W26, st26⟩ := putF X23 hx hZ hown (host := "") (Or.inl (hw _ (List.mem_of_getElem? (i := 60) rfl))) Via.refl e23 F25 F24 (Or.inr ⟨(hw _ (List.mem_of_getElem? (i := 61) rfl)), rfl, hnm⟩) (hw _ (List.mem_of_getElem? (i := 39) rfl)) pf_3 (own_narrow_ref r_v8 rfl) (own_fits_ref r_v8 rfl) (g := (mkF m 52 #[.val (.ref a1), .val v0, .val v1, .val v2, .val v3, .val v4, .val v5, .val (.int (0 : Int32)), .val v7, .val v8, .val v9, .val v10, .val v11, .val v12] [v8, (.ref a1)])) rfl rfl (hb hby d_prog_5_method_1_code_52)
  have N26 := Fr.snoc X26 N23 ge1
  have Fw26 : Fld Z h26 a1 "com/example/operatory/operatory/fhir/SearchValue$Alternative" "value" "Ljava/lang/String;" v8 := F25.same W26
  refine Ends.step st26 ?_
  show Ends _ _ _ _ (T26.setTop (mkF m 55 #[.val (.ref a1), .val v0, .val v1, .val v2, .val v3, .val v4, .val v5, .val (.int (0 : Int32)), .val v7, .val v8, .val v9, .val v10, .val v11, .val v12] []))
  refine Ends.step (fun t k => XS.aloadN X26.here hx rfl (hb hby d_prog_5_method_1_code_55) rfl rfl k) ?_
  show Ends _ _ _ _ (T26.setTop (mkF m 56 #[.val (.ref a1), .val v0, .val v1, .val v2, .val v3, .val v4, .val v5, .val (.int (0 : Int32)), .val v7, .val v8, .val v9, .val v10, .val v11, .val v12] [(.ref a1)]))
  refine Ends.step (fun t k => XS.aload X26.here hx rfl (hb hby d_prog_5_method_1_code_56) rfl r_v9 k) ?_
  show Ends _ _ _ _ (T26.setTop (mkF m 58 #[.val (.ref a1), .val v0, .val v1, .val v2, .val v3, .val v4, .val v5, .val (.int (0 : Int32)), .val v7, .val v8, .val v9, .val v10, .val v11, .val v12] [v9, (.ref a1)]))
  have F27 : Exa Z h26 a1 "com/example/operatory/operatory/fhir/SearchValue$Alternative" := (F24.wr W26)
  have F28 : Fld Z h26 a1 "com/example/operatory/operatory/fhir/SearchValue$Alternative" "type" "Ljava/lang/String;" .null := (((((((((p_Fld_a1_type.other W2 (Or.inr (sn_com_example_operatory_operatory_fhir_SearchValue_Alternative_type__text hw))).other W5 (Or.inr (sn_com_example_operatory_operatory_fhir_SearchValue_Alternative_type__prefix hw))).other W8 (Or.inr (sn_com_example_operatory_operatory_fhir_SearchValue_Alternative_type__number hw))).other W11 (Or.inr (sn_com_example_operatory_operatory_fhir_SearchValue_Alternative_type__date hw))).other W14 (Or.inr (sn_com_example_operatory_operatory_fhir_SearchValue_Alternative_type__precision hw))).other W17 (Or.inr (sn_com_example_operatory_operatory_fhir_SearchValue_Alternative_type__system hw))).other W20 (Or.inr (sn_com_example_operatory_operatory_fhir_SearchValue_Alternative_type__noSystem hw))).other W23 (Or.inr (sn_com_example_operatory_operatory_fhir_SearchValue_Alternative_type__code hw))).other W26 (Or.inr (sn_com_example_operatory_operatory_fhir_SearchValue_Alternative_type__value hw)))
  obtain ⟨T29, h29, X29, e29, W29, st29⟩ := putF X26 hx hZ hown (host := "") (Or.inl (hw _ (List.mem_of_getElem? (i := 62) rfl))) Via.refl e26 F28 F27 (Or.inr ⟨(hw _ (List.mem_of_getElem? (i := 63) rfl)), rfl, hnm⟩) (hw _ (List.mem_of_getElem? (i := 39) rfl)) pf_3 (own_narrow_ref r_v9 rfl) (own_fits_ref r_v9 rfl) (g := (mkF m 58 #[.val (.ref a1), .val v0, .val v1, .val v2, .val v3, .val v4, .val v5, .val (.int (0 : Int32)), .val v7, .val v8, .val v9, .val v10, .val v11, .val v12] [v9, (.ref a1)])) rfl rfl (hb hby d_prog_5_method_1_code_58)
  have N29 := Fr.snoc X29 N26 ge1
  have Fw29 : Fld Z h29 a1 "com/example/operatory/operatory/fhir/SearchValue$Alternative" "type" "Ljava/lang/String;" v9 := F28.same W29
  refine Ends.step st29 ?_
  show Ends _ _ _ _ (T29.setTop (mkF m 61 #[.val (.ref a1), .val v0, .val v1, .val v2, .val v3, .val v4, .val v5, .val (.int (0 : Int32)), .val v7, .val v8, .val v9, .val v10, .val v11, .val v12] []))
  refine Ends.step (fun t k => XS.aloadN X29.here hx rfl (hb hby d_prog_5_method_1_code_61) rfl rfl k) ?_
  show Ends _ _ _ _ (T29.setTop (mkF m 62 #[.val (.ref a1), .val v0, .val v1, .val v2, .val v3, .val v4, .val v5, .val (.int (0 : Int32)), .val v7, .val v8, .val v9, .val v10, .val v11, .val v12] [(.ref a1)]))
  refine Ends.step (fun t k => XS.aload X29.here hx rfl (hb hby d_prog_5_method_1_code_62) rfl r_v10 k) ?_
  show Ends _ _ _ _ (T29.setTop (mkF m 64 #[.val (.ref a1), .val v0, .val v1, .val v2, .val v3, .val v4, .val v5, .val (.int (0 : Int32)), .val v7, .val v8, .val v9, .val v10, .val v11, .val v12] [v10, (.ref a1)]))
  have F30 : Exa Z h29 a1 "com/example/operatory/operatory/fhir/SearchValue$Alternative" := (F27.wr W29)
  have F31 : Fld Z h29 a1 "com/example/operatory/operatory/fhir/SearchValue$Alternative" "id" "Ljava/lang/String;" .null := ((((((((((p_Fld_a1_id.other W2 (Or.inr (sn_com_example_operatory_operatory_fhir_SearchValue_Alternative_id__text hw))).other W5 (Or.inr (sn_com_example_operatory_operatory_fhir_SearchValue_Alternative_id__prefix hw))).other W8 (Or.inr (sn_com_example_operatory_operatory_fhir_SearchValue_Alternative_id__number hw))).other W11 (Or.inr (sn_com_example_operatory_operatory_fhir_SearchValue_Alternative_id__date hw))).other W14 (Or.inr (sn_com_example_operatory_operatory_fhir_SearchValue_Alternative_id__precision hw))).other W17 (Or.inr (sn_com_example_operatory_operatory_fhir_SearchValue_Alternative_id__system hw))).other W20 (Or.inr (sn_com_example_operatory_operatory_fhir_SearchValue_Alternative_id__noSystem hw))).other W23 (Or.inr (sn_com_example_operatory_operatory_fhir_SearchValue_Alternative_id__code hw))).other W26 (Or.inr (sn_com_example_operatory_operatory_fhir_SearchValue_Alternative_id__value hw))).other W29 (Or.inr (sn_com_example_operatory_operatory_fhir_SearchValue_Alternative_id__type hw)))
  obtain ⟨T32, h32, X32, e32, W32, st32⟩ := putF X29 hx hZ hown (host := "") (Or.inl (hw _ (List.mem_of_getElem? (i := 64) rfl))) Via.refl e29 F31 F30 (Or.inr ⟨(hw _ (List.mem_of_getElem? (i := 65) rfl)), rfl, hnm⟩) (hw _ (List.mem_of_getElem? (i := 39) rfl)) pf_3 (own_narrow_ref r_v10 rfl) (own_fits_ref r_v10 rfl) (g := (mkF m 64 #[.val (.ref a1), .val v0, .val v1, .val v2, .val v3, .val v4, .val v5, .val (.int (0 : Int32)), .val v7, .val v8, .val v9, .val v10, .val v11, .val v12] [v10, (.ref a1)])) rfl rfl (hb hby d_prog_5_method_1_code_64)
  have N32 := Fr.snoc X32 N29 ge1
  have Fw32 : Fld Z h32 a1 "com/example/operatory/operatory/fhir/SearchValue$Alternative" "id" "Ljava/lang/String;" v10 := F31.same W32
  refine Ends.step st32 ?_
  show Ends _ _ _ _ (T32.setTop (mkF m 67 #[.val (.ref a1), .val v0, .val v1, .val v2, .val v3, .val v4, .val v5, .val (.int (0 : Int32)), .val v7, .val v8, .val v9, .val v10, .val v11, .val v12] []))
  refine Ends.step (fun t k => XS.aloadN X32.here hx rfl (hb hby d_prog_5_method_1_code_67) rfl rfl k) ?_
  show Ends _ _ _ _ (T32.setTop (mkF m 68 #[.val (.ref a1), .val v0, .val v1, .val v2, .val v3, .val v4, .val v5, .val (.int (0 : Int32)), .val v7, .val v8, .val v9, .val v10, .val v11, .val v12] [(.ref a1)]))
  refine Ends.step (fun t k => XS.aload X32.here hx rfl (hb hby d_prog_5_method_1_code_68) rfl r_v11 k) ?_
  show Ends _ _ _ _ (T32.setTop (mkF m 70 #[.val (.ref a1), .val v0, .val v1, .val v2, .val v3, .val v4, .val v5, .val (.int (0 : Int32)), .val v7, .val v8, .val v9, .val v10, .val v11, .val v12] [v11, (.ref a1)]))
  have F33 : Exa Z h32 a1 "com/example/operatory/operatory/fhir/SearchValue$Alternative" := (F30.wr W32)
  have F34 : Fld Z h32 a1 "com/example/operatory/operatory/fhir/SearchValue$Alternative" "url" "Ljava/lang/String;" .null := (((((((((((p_Fld_a1_url.other W2 (Or.inr (sn_com_example_operatory_operatory_fhir_SearchValue_Alternative_url__text hw))).other W5 (Or.inr (sn_com_example_operatory_operatory_fhir_SearchValue_Alternative_url__prefix hw))).other W8 (Or.inr (sn_com_example_operatory_operatory_fhir_SearchValue_Alternative_url__number hw))).other W11 (Or.inr (sn_com_example_operatory_operatory_fhir_SearchValue_Alternative_url__date hw))).other W14 (Or.inr (sn_com_example_operatory_operatory_fhir_SearchValue_Alternative_url__precision hw))).other W17 (Or.inr (sn_com_example_operatory_operatory_fhir_SearchValue_Alternative_url__system hw))).other W20 (Or.inr (sn_com_example_operatory_operatory_fhir_SearchValue_Alternative_url__noSystem hw))).other W23 (Or.inr (sn_com_example_operatory_operatory_fhir_SearchValue_Alternative_url__code hw))).other W26 (Or.inr (sn_com_example_operatory_operatory_fhir_SearchValue_Alternative_url__value hw))).other W29 (Or.inr (sn_com_example_operatory_operatory_fhir_SearchValue_Alternative_url__type hw))).other W32 (Or.inr (sn_com_example_operatory_operatory_fhir_SearchValue_Alternative_url__id hw)))
  obtain ⟨T35, h35, X35, e35, W35, st35⟩ := putF X32 hx hZ hown (host := "") (Or.inl (hw _ (List.mem_of_getElem? (i := 66) rfl))) Via.refl e32 F34 F33 (Or.inr ⟨(hw _ (List.mem_of_getElem? (i := 67) rfl)), rfl, hnm⟩) (hw _ (List.mem_of_getElem? (i := 39) rfl)) pf_3 (own_narrow_ref r_v11 rfl) (own_fits_ref r_v11 rfl) (g := (mkF m 70 #[.val (.ref a1), .val v0, .val v1, .val v2, .val v3, .val v4, .val v5, .val (.int (0 : Int32)), .val v7, .val v8, .val v9, .val v10, .val v11, .val v12] [v11, (.ref a1)])) rfl rfl (hb hby d_prog_5_method_1_code_70)
  have N35 := Fr.snoc X35 N32 ge1
  have Fw35 : Fld Z h35 a1 "com/example/operatory/operatory/fhir/SearchValue$Alternative" "url" "Ljava/lang/String;" v11 := F34.same W35
  refine Ends.step st35 ?_
  show Ends _ _ _ _ (T35.setTop (mkF m 73 #[.val (.ref a1), .val v0, .val v1, .val v2, .val v3, .val v4, .val v5, .val (.int (0 : Int32)), .val v7, .val v8, .val v9, .val v10, .val v11, .val v12] []))
  refine Ends.step (fun t k => XS.aloadN X35.here hx rfl (hb hby d_prog_5_method_1_code_73) rfl rfl k) ?_
  show Ends _ _ _ _ (T35.setTop (mkF m 74 #[.val (.ref a1), .val v0, .val v1, .val v2, .val v3, .val v4, .val v5, .val (.int (0 : Int32)), .val v7, .val v8, .val v9, .val v10, .val v11, .val v12] [(.ref a1)]))
  refine Ends.step (fun t k => XS.aload X35.here hx rfl (hb hby d_prog_5_method_1_code_74) rfl r_v12 k) ?_
  show Ends _ _ _ _ (T35.setTop (mkF m 76 #[.val (.ref a1), .val v0, .val v1, .val v2, .val v3, .val v4, .val v5, .val (.int (0 : Int32)), .val v7, .val v8, .val v9, .val v10, .val v11, .val v12] [v12, (.ref a1)]))
  have F36 : Exa Z h35 a1 "com/example/operatory/operatory/fhir/SearchValue$Alternative" := (F33.wr W35)
  have F37 : Fld Z h35 a1 "com/example/operatory/operatory/fhir/SearchValue$Alternative" "missing" "Ljava/lang/Boolean;" .null := ((((((((((((p_Fld_a1_missing.other W2 (Or.inr (sn_com_example_operatory_operatory_fhir_SearchValue_Alternative_missing__text hw))).other W5 (Or.inr (sn_com_example_operatory_operatory_fhir_SearchValue_Alternative_missing__prefix hw))).other W8 (Or.inr (sn_com_example_operatory_operatory_fhir_SearchValue_Alternative_missing__number hw))).other W11 (Or.inr (sn_com_example_operatory_operatory_fhir_SearchValue_Alternative_missing__date hw))).other W14 (Or.inr (sn_com_example_operatory_operatory_fhir_SearchValue_Alternative_missing__precision hw))).other W17 (Or.inr (sn_com_example_operatory_operatory_fhir_SearchValue_Alternative_missing__system hw))).other W20 (Or.inr (sn_com_example_operatory_operatory_fhir_SearchValue_Alternative_missing__noSystem hw))).other W23 (Or.inr (sn_com_example_operatory_operatory_fhir_SearchValue_Alternative_missing__code hw))).other W26 (Or.inr (sn_com_example_operatory_operatory_fhir_SearchValue_Alternative_missing__value hw))).other W29 (Or.inr (sn_com_example_operatory_operatory_fhir_SearchValue_Alternative_missing__type hw))).other W32 (Or.inr (sn_com_example_operatory_operatory_fhir_SearchValue_Alternative_missing__id hw))).other W35 (Or.inr (sn_com_example_operatory_operatory_fhir_SearchValue_Alternative_missing__url hw)))
  obtain ⟨T38, h38, X38, e38, W38, st38⟩ := putF X35 hx hZ hown (host := "") (Or.inl (hw _ (List.mem_of_getElem? (i := 68) rfl))) Via.refl e35 F37 F36 (Or.inr ⟨(hw _ (List.mem_of_getElem? (i := 69) rfl)), rfl, hnm⟩) (hw _ (List.mem_of_getElem? (i := 39) rfl)) pf_8 (own_narrow_ref r_v12 rfl) (own_fits_ref r_v12 rfl) (g := (mkF m 76 #[.val (.ref a1), .val v0, .val v1, .val v2, .val v3, .val v4, .val v5, .val (.int (0 : Int32)), .val v7, .val v8, .val v9, .val v10, .val v11, .val v12] [v12, (.ref a1)])) rfl rfl (hb hby d_prog_5_method_1_code_76)
  have N38 := Fr.snoc X38 N35 ge1
  have Fw38 : Fld Z h38 a1 "com/example/operatory/operatory/fhir/SearchValue$Alternative" "missing" "Ljava/lang/Boolean;" v12 := F37.same W38
  refine Ends.step st38 ?_
  show Ends _ _ _ _ (T38.setTop (mkF m 79 #[.val (.ref a1), .val v0, .val v1, .val v2, .val v3, .val v4, .val v5, .val (.int (0 : Int32)), .val v7, .val v8, .val v9, .val v10, .val v11, .val v12] []))
  have F39 : Exa Z h38 a1 "com/example/operatory/operatory/fhir/SearchValue$Alternative" := (F36.wr W38)
  have F40 : Fld Z h38 a1 "com/example/operatory/operatory/fhir/SearchValue$Alternative" "text" "Ljava/lang/String;" v0 := ((((((((((((Fw2.other W5 (Or.inr (sn_com_example_operatory_operatory_fhir_SearchValue_Alternative_text__prefix hw))).other W8 (Or.inr (sn_com_example_operatory_operatory_fhir_SearchValue_Alternative_text__number hw))).other W11 (Or.inr (sn_com_example_operatory_operatory_fhir_SearchValue_Alternative_text__date hw))).other W14 (Or.inr (sn_com_example_operatory_operatory_fhir_SearchValue_Alternative_text__precision hw))).other W17 (Or.inr (sn_com_example_operatory_operatory_fhir_SearchValue_Alternative_text__system hw))).other W20 (Or.inr (sn_com_example_operatory_operatory_fhir_SearchValue_Alternative_text__noSystem hw))).other W23 (Or.inr (sn_com_example_operatory_operatory_fhir_SearchValue_Alternative_text__code hw))).other W26 (Or.inr (sn_com_example_operatory_operatory_fhir_SearchValue_Alternative_text__value hw))).other W29 (Or.inr (sn_com_example_operatory_operatory_fhir_SearchValue_Alternative_text__type hw))).other W32 (Or.inr (sn_com_example_operatory_operatory_fhir_SearchValue_Alternative_text__id hw))).other W35 (Or.inr (sn_com_example_operatory_operatory_fhir_SearchValue_Alternative_text__url hw))).other W38 (Or.inr (sn_com_example_operatory_operatory_fhir_SearchValue_Alternative_text__missing hw)))
  have F41 : Fld Z h38 a1 "com/example/operatory/operatory/fhir/SearchValue$Alternative" "prefix" "Lcom/example/operatory/operatory/fhir/SearchValue$Prefix;" v1 := (((((((((((Fw5.other W8 (Or.inr (sn_com_example_operatory_operatory_fhir_SearchValue_Alternative_prefix__number hw))).other W11 (Or.inr (sn_com_example_operatory_operatory_fhir_SearchValue_Alternative_prefix__date hw))).other W14 (Or.inr (sn_com_example_operatory_operatory_fhir_SearchValue_Alternative_prefix__precision hw))).other W17 (Or.inr (sn_com_example_operatory_operatory_fhir_SearchValue_Alternative_prefix__system hw))).other W20 (Or.inr (sn_com_example_operatory_operatory_fhir_SearchValue_Alternative_prefix__noSystem hw))).other W23 (Or.inr (sn_com_example_operatory_operatory_fhir_SearchValue_Alternative_prefix__code hw))).other W26 (Or.inr (sn_com_example_operatory_operatory_fhir_SearchValue_Alternative_prefix__value hw))).other W29 (Or.inr (sn_com_example_operatory_operatory_fhir_SearchValue_Alternative_prefix__type hw))).other W32 (Or.inr (sn_com_example_operatory_operatory_fhir_SearchValue_Alternative_prefix__id hw))).other W35 (Or.inr (sn_com_example_operatory_operatory_fhir_SearchValue_Alternative_prefix__url hw))).other W38 (Or.inr (sn_com_example_operatory_operatory_fhir_SearchValue_Alternative_prefix__missing hw)))
  have F42 : Fld Z h38 a1 "com/example/operatory/operatory/fhir/SearchValue$Alternative" "number" "Ljava/math/BigDecimal;" v2 := ((((((((((Fw8.other W11 (Or.inr (sn_com_example_operatory_operatory_fhir_SearchValue_Alternative_number__date hw))).other W14 (Or.inr (sn_com_example_operatory_operatory_fhir_SearchValue_Alternative_number__precision hw))).other W17 (Or.inr (sn_com_example_operatory_operatory_fhir_SearchValue_Alternative_number__system hw))).other W20 (Or.inr (sn_com_example_operatory_operatory_fhir_SearchValue_Alternative_number__noSystem hw))).other W23 (Or.inr (sn_com_example_operatory_operatory_fhir_SearchValue_Alternative_number__code hw))).other W26 (Or.inr (sn_com_example_operatory_operatory_fhir_SearchValue_Alternative_number__value hw))).other W29 (Or.inr (sn_com_example_operatory_operatory_fhir_SearchValue_Alternative_number__type hw))).other W32 (Or.inr (sn_com_example_operatory_operatory_fhir_SearchValue_Alternative_number__id hw))).other W35 (Or.inr (sn_com_example_operatory_operatory_fhir_SearchValue_Alternative_number__url hw))).other W38 (Or.inr (sn_com_example_operatory_operatory_fhir_SearchValue_Alternative_number__missing hw)))
  have F43 : Fld Z h38 a1 "com/example/operatory/operatory/fhir/SearchValue$Alternative" "date" "Ljava/lang/String;" v3 := (((((((((Fw11.other W14 (Or.inr (sn_com_example_operatory_operatory_fhir_SearchValue_Alternative_date__precision hw))).other W17 (Or.inr (sn_com_example_operatory_operatory_fhir_SearchValue_Alternative_date__system hw))).other W20 (Or.inr (sn_com_example_operatory_operatory_fhir_SearchValue_Alternative_date__noSystem hw))).other W23 (Or.inr (sn_com_example_operatory_operatory_fhir_SearchValue_Alternative_date__code hw))).other W26 (Or.inr (sn_com_example_operatory_operatory_fhir_SearchValue_Alternative_date__value hw))).other W29 (Or.inr (sn_com_example_operatory_operatory_fhir_SearchValue_Alternative_date__type hw))).other W32 (Or.inr (sn_com_example_operatory_operatory_fhir_SearchValue_Alternative_date__id hw))).other W35 (Or.inr (sn_com_example_operatory_operatory_fhir_SearchValue_Alternative_date__url hw))).other W38 (Or.inr (sn_com_example_operatory_operatory_fhir_SearchValue_Alternative_date__missing hw)))
  have F44 : Fld Z h38 a1 "com/example/operatory/operatory/fhir/SearchValue$Alternative" "precision" "Lcom/example/operatory/operatory/fhir/SearchValue$Precision;" v4 := ((((((((Fw14.other W17 (Or.inr (sn_com_example_operatory_operatory_fhir_SearchValue_Alternative_precision__system hw))).other W20 (Or.inr (sn_com_example_operatory_operatory_fhir_SearchValue_Alternative_precision__noSystem hw))).other W23 (Or.inr (sn_com_example_operatory_operatory_fhir_SearchValue_Alternative_precision__code hw))).other W26 (Or.inr (sn_com_example_operatory_operatory_fhir_SearchValue_Alternative_precision__value hw))).other W29 (Or.inr (sn_com_example_operatory_operatory_fhir_SearchValue_Alternative_precision__type hw))).other W32 (Or.inr (sn_com_example_operatory_operatory_fhir_SearchValue_Alternative_precision__id hw))).other W35 (Or.inr (sn_com_example_operatory_operatory_fhir_SearchValue_Alternative_precision__url hw))).other W38 (Or.inr (sn_com_example_operatory_operatory_fhir_SearchValue_Alternative_precision__missing hw)))
  have F45 : Fld Z h38 a1 "com/example/operatory/operatory/fhir/SearchValue$Alternative" "system" "Ljava/lang/String;" v5 := (((((((Fw17.other W20 (Or.inr (sn_com_example_operatory_operatory_fhir_SearchValue_Alternative_system__noSystem hw))).other W23 (Or.inr (sn_com_example_operatory_operatory_fhir_SearchValue_Alternative_system__code hw))).other W26 (Or.inr (sn_com_example_operatory_operatory_fhir_SearchValue_Alternative_system__value hw))).other W29 (Or.inr (sn_com_example_operatory_operatory_fhir_SearchValue_Alternative_system__type hw))).other W32 (Or.inr (sn_com_example_operatory_operatory_fhir_SearchValue_Alternative_system__id hw))).other W35 (Or.inr (sn_com_example_operatory_operatory_fhir_SearchValue_Alternative_system__url hw))).other W38 (Or.inr (sn_com_example_operatory_operatory_fhir_SearchValue_Alternative_system__missing hw)))
  have F46 : Fld Z h38 a1 "com/example/operatory/operatory/fhir/SearchValue$Alternative" "noSystem" "Z" (.int (0 : Int32)) := ((((((Fw20.other W23 (Or.inr (sn_com_example_operatory_operatory_fhir_SearchValue_Alternative_noSystem__code hw))).other W26 (Or.inr (sn_com_example_operatory_operatory_fhir_SearchValue_Alternative_noSystem__value hw))).other W29 (Or.inr (sn_com_example_operatory_operatory_fhir_SearchValue_Alternative_noSystem__type hw))).other W32 (Or.inr (sn_com_example_operatory_operatory_fhir_SearchValue_Alternative_noSystem__id hw))).other W35 (Or.inr (sn_com_example_operatory_operatory_fhir_SearchValue_Alternative_noSystem__url hw))).other W38 (Or.inr (sn_com_example_operatory_operatory_fhir_SearchValue_Alternative_noSystem__missing hw)))
  have F47 : Fld Z h38 a1 "com/example/operatory/operatory/fhir/SearchValue$Alternative" "code" "Ljava/lang/String;" v7 := (((((Fw23.other W26 (Or.inr (sn_com_example_operatory_operatory_fhir_SearchValue_Alternative_code__value hw))).other W29 (Or.inr (sn_com_example_operatory_operatory_fhir_SearchValue_Alternative_code__type hw))).other W32 (Or.inr (sn_com_example_operatory_operatory_fhir_SearchValue_Alternative_code__id hw))).other W35 (Or.inr (sn_com_example_operatory_operatory_fhir_SearchValue_Alternative_code__url hw))).other W38 (Or.inr (sn_com_example_operatory_operatory_fhir_SearchValue_Alternative_code__missing hw)))
  have F48 : Fld Z h38 a1 "com/example/operatory/operatory/fhir/SearchValue$Alternative" "value" "Ljava/lang/String;" v8 := ((((Fw26.other W29 (Or.inr (sn_com_example_operatory_operatory_fhir_SearchValue_Alternative_value__type hw))).other W32 (Or.inr (sn_com_example_operatory_operatory_fhir_SearchValue_Alternative_value__id hw))).other W35 (Or.inr (sn_com_example_operatory_operatory_fhir_SearchValue_Alternative_value__url hw))).other W38 (Or.inr (sn_com_example_operatory_operatory_fhir_SearchValue_Alternative_value__missing hw)))
  have F49 : Fld Z h38 a1 "com/example/operatory/operatory/fhir/SearchValue$Alternative" "type" "Ljava/lang/String;" v9 := (((Fw29.other W32 (Or.inr (sn_com_example_operatory_operatory_fhir_SearchValue_Alternative_type__id hw))).other W35 (Or.inr (sn_com_example_operatory_operatory_fhir_SearchValue_Alternative_type__url hw))).other W38 (Or.inr (sn_com_example_operatory_operatory_fhir_SearchValue_Alternative_type__missing hw)))
  have F50 : Fld Z h38 a1 "com/example/operatory/operatory/fhir/SearchValue$Alternative" "id" "Ljava/lang/String;" v10 := ((Fw32.other W35 (Or.inr (sn_com_example_operatory_operatory_fhir_SearchValue_Alternative_id__url hw))).other W38 (Or.inr (sn_com_example_operatory_operatory_fhir_SearchValue_Alternative_id__missing hw)))
  have F51 : Fld Z h38 a1 "com/example/operatory/operatory/fhir/SearchValue$Alternative" "url" "Ljava/lang/String;" v11 := (Fw35.other W38 (Or.inr (sn_com_example_operatory_operatory_fhir_SearchValue_Alternative_url__missing hw)))
  exact own_finV X38 hx hlk Bd.returns (hb hby d_prog_5_method_1_code_79) e38 (K := _) ⟨rfl, N38, ((((((((((((((Keep.refl h0 [a1]).wr W2 (Or.inl (List.mem_of_getElem? (i := 0) rfl))).wr W5 (Or.inl (List.mem_of_getElem? (i := 0) rfl))).wr W8 (Or.inl (List.mem_of_getElem? (i := 0) rfl))).wr W11 (Or.inl (List.mem_of_getElem? (i := 0) rfl))).wr W14 (Or.inl (List.mem_of_getElem? (i := 0) rfl))).wr W17 (Or.inl (List.mem_of_getElem? (i := 0) rfl))).wr W20 (Or.inl (List.mem_of_getElem? (i := 0) rfl))).wr W23 (Or.inl (List.mem_of_getElem? (i := 0) rfl))).wr W26 (Or.inl (List.mem_of_getElem? (i := 0) rfl))).wr W29 (Or.inl (List.mem_of_getElem? (i := 0) rfl))).wr W32 (Or.inl (List.mem_of_getElem? (i := 0) rfl))).wr W35 (Or.inl (List.mem_of_getElem? (i := 0) rfl))).wr W38 (Or.inl (List.mem_of_getElem? (i := 0) rfl))), F39, F40, F41, F42, F43, F44, F45, F46, F47, F48, F49, F50, F51, Fw38⟩ (by decide) (by decide)
def QrmOf (Z : State) (a1 : Addr) (v2 : Value) (v3 : Value) (v4 : Value) (h0 : Heap) (n0 : Nat) (v : Option Value) (h : Heap) (L : List Loc) : Prop := ∃ x : Addr, v = some (.ref x) ∧ Fr n0 L ∧ Keep h0 h [] ∧ (h0.size ≤ x) ∧ (Exa Z h x "com/example/operatory/operatory/fhir/SearchValue$Alternative") ∧ (Fld Z h x "com/example/operatory/operatory/fhir/SearchValue$Alternative" "text" "Ljava/lang/String;" (.ref a1)) ∧ (Fld Z h x "com/example/operatory/operatory/fhir/SearchValue$Alternative" "prefix" "Lcom/example/operatory/operatory/fhir/SearchValue$Prefix;" .null) ∧ (Fld Z h x "com/example/operatory/operatory/fhir/SearchValue$Alternative" "number" "Ljava/math/BigDecimal;" .null) ∧ (Fld Z h x "com/example/operatory/operatory/fhir/SearchValue$Alternative" "date" "Ljava/lang/String;" .null) ∧ (Fld Z h x "com/example/operatory/operatory/fhir/SearchValue$Alternative" "precision" "Lcom/example/operatory/operatory/fhir/SearchValue$Precision;" .null) ∧ (Fld Z h x "com/example/operatory/operatory/fhir/SearchValue$Alternative" "system" "Ljava/lang/String;" .null) ∧ (Fld Z h x "com/example/operatory/operatory/fhir/SearchValue$Alternative" "noSystem" "Z" (.int (0 : Int32))) ∧ (Fld Z h x "com/example/operatory/operatory/fhir/SearchValue$Alternative" "code" "Ljava/lang/String;" .null) ∧ (Fld Z h x "com/example/operatory/operatory/fhir/SearchValue$Alternative" "value" "Ljava/lang/String;" .null) ∧ (Fld Z h x "com/example/operatory/operatory/fhir/SearchValue$Alternative" "type" "Ljava/lang/String;" v2) ∧ (Fld Z h x "com/example/operatory/operatory/fhir/SearchValue$Alternative" "id" "Ljava/lang/String;" v3) ∧ (Fld Z h x "com/example/operatory/operatory/fhir/SearchValue$Alternative" "url" "Ljava/lang/String;" v4) ∧ (Fld Z h x "com/example/operatory/operatory/fhir/SearchValue$Alternative" "missing" "Ljava/lang/Boolean;" .null)
theorem ef_rmOf (m : MethodId) (a1 : Addr) (v2 : Value) (v3 : Value) (v4 : Value) (r_v2 : Value.isRef v2 = true) (r_v3 : Value.isRef v3 = true) (r_v4 : Value.isRef v4 = true) : entryFrame m #[(.ref a1), v2, v3, v4] 4 = mkF m 0 #[.val (.ref a1), .val v2, .val v3, .val v4] [] := by first | (simp [entryFrame, mkF, argsToLocals, maxLocals, own_cR, own_cI, own_cN, own_cJ, XT.cat1 r_v2, XT.cat1 r_v3, XT.cat1 r_v4]; done) | rfl
set_option maxRecDepth 65536 in
set_option maxHeartbeats 40000000 in
theorem rmOf (l : Launch) (Z : State) (a0 : Array Value) (hw : ∀ d ∈ tables_1, d.before a0 Z = true) (ws : List Jvm.Cond) (a1 : Addr) (v2 : Value) (v3 : Value) (v4 : Value) (h0 : Heap) (n0 : Nat) (Z0 : n0 ≤ h0.size) (G1 : Int32) (O2 : Sta Z Z.heap "java/lang/String" "COMPACT_STRINGS" "Z" (.int G1)) (P5 : ¬ (G1 = (0 : Int32))) (eA : Addr) (SE : Sta Z Z.heap "java/util/Optional" "EMPTY" "Ljava/util/Optional;" (.ref eA)) (XE : Exa Z Z.heap eA "java/util/Optional") (FE : Fld Z Z.heap eA "java/util/Optional" "value" "Ljava/lang/Object;" .null) (X00 : Old Z n0 h0) (r_v2 : Value.isRef v2 = true) (r_v3 : Value.isRef v3 = true) (r_v4 : Value.isRef v4 = true) :
    MetFree l (⟨"com/example/operatory/operatory/fhir/SearchValue$Alternative", "ofReference", "(Ljava/lang/String;Ljava/lang/String;Ljava/lang/String;Ljava/lang/String;)Lcom/example/operatory/operatory/fhir/SearchValue$Alternative;"⟩ : MethodName) (head1 (Jvm.Cond.code (⟨"com/example/operatory/operatory/fhir/SearchValue$Alternative", "ofReference", "(Ljava/lang/String;Ljava/lang/String;Ljava/lang/String;Ljava/lang/String;)Lcom/example/operatory/operatory/fhir/SearchValue$Alternative;"⟩ : MethodName) prog_5_method_7_code 4 (Option.some (Jvm.ClassFile.FieldType.object "com/example/operatory/operatory/fhir/SearchValue$Alternative")) :: ws) ({ frames := 2, cells := 1, slots := 13, locals := 38 } : Room)) (fun a U => a = #[(.ref a1), v2, v3, v4] ∧ Z.Warmed39 U.vm ∧ U.heap = h0) (fun _ _ _ _ _ => True) (fun _ U o U' => ∃ v L, o = .returned v ∧ QrmOf Z a1 v2 v3 v4 h0 n0 v U'.heap L ∧ FrameEnd U o U' L ({ frames := 2, cells := 1, slots := 13, locals := 38 } : Room).cells ({ frames := 2, cells := 1, slots := 13, locals := 38 } : Room).slots) := by
  refine MetFree.of_bodySF (plainFor_of_name pn_com_example_operatory_operatory_fhir_SearchValue_Alternative) hisR ?_
  intro p e s m args below meth c s₁ Bd hml0 hP hK
  obtain ⟨rfl, hZ, hh⟩ := hP
  have hx := Bd.exec
  have hby := Bd.bytes
  have hml : c.maxLocals = 4 := hml0
  have hown : s.vm.findClass "com/example/operatory/operatory/fhir/SearchValue$Alternative" = some m.cls := findClass_of_methodNamed Bd.named
  have hnm := (name_of_methodNamed Bd.named Bd.method).1
  have hlk : meth.locks = false := BodyLoose.notSynchronized Bd
  have X0 : Stand p l e ({ frames := 2, cells := 1, slots := 13, locals := 38 } : Room) s m #[(.ref a1), v2, v3, v4] below meth c s₁ [] 0 0 := Stand.of_body Bd
  have e0 : s₁.heap = h0 := by rw [← hh, Bd.state]; rfl
  have N0 := Fr.nil n0
  show Ends p.tables e below (fun o U' => ∃ v L, o = .returned v ∧ QrmOf Z a1 v2 v3 v4 h0 n0 v U'.heap L ∧ FrameEnd s o U' L ({ frames := 2, cells := 1, slots := 13, locals := 38 } : Room).cells ({ frames := 2, cells := 1, slots := 13, locals := 38 } : Room).slots) (s₁.setTop (entryFrame m #[(.ref a1), v2, v3, v4] 4))
  refine Ends.step (fun t k => castTop (ef_rmOf m a1 v2 v3 v4 r_v2 r_v3 r_v4) k) ?_
  show Ends _ _ _ _ (s₁.setTop (mkF m 0 #[.val (.ref a1), .val v2, .val v3, .val v4] []))
  obtain ⟨T1, h1, X1, e1, E1, A1, D1, -, st1⟩ := newO X0 hx hZ hown (hw _ (List.mem_of_getElem? (i := 38) rfl)) (hw _ (List.mem_of_getElem? (i := 39) rfl)) (hw _ (List.mem_of_getElem? (i := 36) rfl)) e0 (g := (mkF m 0 #[.val (.ref a1), .val v2, .val v3, .val v4] [])) rfl (hb hby d_prog_5_method_7_code_0) (by decide) (by decide)
  obtain ⟨b1, g1⟩ : ∃ z, z = h0.size := ⟨_, rfl⟩
  rw [← g1] at A1 D1 st1
  have X1 : Stand p l e ({ frames := 2, cells := 1, slots := 13, locals := 38 } : Room) s m _ below meth c T1 _ 1 13 := X1
  refine Ends.step st1 ?_
  show Ends _ _ _ _ (T1.setTop (mkF m 3 #[.val (.ref a1), .val v2, .val v3, .val v4] [(.ref b1)]))
  refine Ends.step (fun t k => XS.dup X1.here hx rfl (hb hby d_prog_5_method_7_code_3) rfl rfl k) ?_
  show Ends _ _ _ _ (T1.setTop (mkF m 4 #[.val (.ref a1), .val v2, .val v3, .val v4] [(.ref b1), (.ref b1)]))
  refine Ends.step (fun t k => XS.aloadN X1.here hx rfl (hb hby d_prog_5_method_7_code_4) rfl rfl k) ?_
  show Ends _ _ _ _ (T1.setTop (mkF m 5 #[.val (.ref a1), .val v2, .val v3, .val v4] [(.ref a1), (.ref b1), (.ref b1)]))
  refine Ends.step (fun t k => XS.aconstNull X1.here hx rfl (hb hby d_prog_5_method_7_code_5) k) ?_
  show Ends _ _ _ _ (T1.setTop (mkF m 6 #[.val (.ref a1), .val v2, .val v3, .val v4] [.null, (.ref a1), (.ref b1), (.ref b1)]))
  refine Ends.step (fun t k => XS.aconstNull X1.here hx rfl (hb hby d_prog_5_method_7_code_6) k) ?_
  show Ends _ _ _ _ (T1.setTop (mkF m 7 #[.val (.ref a1), .val v2, .val v3, .val v4] [.null, .null, (.ref a1), (.ref b1), (.ref b1)]))
  refine Ends.step (fun t k => XS.aconstNull X1.here hx rfl (hb hby d_prog_5_method_7_code_7) k) ?_
  show Ends _ _ _ _ (T1.setTop (mkF m 8 #[.val (.ref a1), .val v2, .val v3, .val v4] [.null, .null, .null, (.ref a1), (.ref b1), (.ref b1)]))
  refine Ends.step (fun t k => XS.aconstNull X1.here hx rfl (hb hby d_prog_5_method_7_code_8) k) ?_
  show Ends _ _ _ _ (T1.setTop (mkF m 9 #[.val (.ref a1), .val v2, .val v3, .val v4] [.null, .null, .null, .null, (.ref a1), (.ref b1), (.ref b1)]))
  refine Ends.step (fun t k => XS.aconstNull X1.here hx rfl (hb hby d_prog_5_method_7_code_9) k) ?_
  show Ends _ _ _ _ (T1.setTop (mkF m 10 #[.val (.ref a1), .val v2, .val v3, .val v4] [.null, .null, .null, .null, .null, (.ref a1), (.ref b1), (.ref b1)]))
  refine Ends.step (fun t k => XS.iconst X1.here hx rfl (hb hby d_prog_5_method_7_code_10) k) ?_
  show Ends _ _ _ _ (T1.setTop (mkF m 11 #[.val (.ref a1), .val v2, .val v3, .val v4] [(.int (0 : Int32)), .null, .null, .null, .null, .null, (.ref a1), (.ref b1), (.ref b1)]))
  refine Ends.step (fun t k => XS.aconstNull X1.here hx rfl (hb hby d_prog_5_method_7_code_11) k) ?_
  show Ends _ _ _ _ (T1.setTop (mkF m 12 #[.val (.ref a1), .val v2, .val v3, .val v4] [.null, (.int (0 : Int32)), .null, .null, .null, .null, .null, (.ref a1), (.ref b1), (.ref b1)]))
  refine Ends.step (fun t k => XS.aconstNull X1.here hx rfl (hb hby d_prog_5_method_7_code_12) k) ?_
  show Ends _ _ _ _ (T1.setTop (mkF m 13 #[.val (.ref a1), .val v2, .val v3, .val v4] [.null, .null, (.int (0 : Int32)), .null, .null, .null, .null, .null, (.ref a1), (.ref b1), (.ref b1)]))
  refine Ends.step (fun t k => XS.aloadN X1.here hx rfl (hb hby d_prog_5_method_7_code_13) rfl r_v2 k) ?_
  show Ends _ _ _ _ (T1.setTop (mkF m 14 #[.val (.ref a1), .val v2, .val v3, .val v4] [v2, .null, .null, (.int (0 : Int32)), .null, .null, .null, .null, .null, (.ref a1), (.ref b1), (.ref b1)]))
  refine Ends.step (fun t k => XS.aloadN X1.here hx rfl (hb hby d_prog_5_method_7_code_14) rfl r_v3 k) ?_
  show Ends _ _ _ _ (T1.setTop (mkF m 15 #[.val (.ref a1), .val v2, .val v3, .val v4] [v3, v2, .null, .null, (.int (0 : Int32)), .null, .null, .null, .null, .null, (.ref a1), (.ref b1), (.ref b1)]))
  refine Ends.step (fun t k => XS.aloadN X1.here hx rfl (hb hby d_prog_5_method_7_code_15) rfl r_v4 k) ?_
  show Ends _ _ _ _ (T1.setTop (mkF m 16 #[.val (.ref a1), .val v2, .val v3, .val v4] [v4, v3, v2, .null, .null, (.int (0 : Int32)), .null, .null, .null, .null, .null, (.ref a1), (.ref b1), (.ref b1)]))
  refine Ends.step (fun t k => XS.aconstNull X1.here hx rfl (hb hby d_prog_5_method_7_code_16) k) ?_
  show Ends _ _ _ _ (T1.setTop (mkF m 17 #[.val (.ref a1), .val v2, .val v3, .val v4] [.null, v4, v3, v2, .null, .null, (.int (0 : Int32)), .null, .null, .null, .null, .null, (.ref a1), (.ref b1), (.ref b1)]))
  have F2 : Old Z n0 h1 := (X00.ext E1)
  obtain ⟨_, _, ⟨T3, L3, k3, n3⟩, -, X3, ⟨Lc3, hQ3, l3, y3, z3⟩, st3⟩ := X1.specialBack hx (y := (⟨"com/example/operatory/operatory/fhir/SearchValue$Alternative", "<init>", "(Ljava/lang/String;Lcom/example/operatory/operatory/fhir/SearchValue$Prefix;Ljava/math/BigDecimal;Ljava/lang/String;Lcom/example/operatory/operatory/fhir/SearchValue$Precision;Ljava/lang/String;ZLjava/lang/String;Ljava/lang/String;Ljava/lang/String;Ljava/lang/String;Ljava/lang/String;Ljava/lang/Boolean;)V"⟩ : MethodName)) rfl hown (mvT hZ (hw _ (List.mem_of_getElem? (i := 40) rfl))) (mvT hZ (hw _ (List.mem_of_getElem? (i := 41) rfl))) (mvT hZ (hw _ (List.mem_of_getElem? (i := 42) rfl))) (by decide) (backOf (W := 1) (rmAltI l Z a0 hw [] b1 (.ref a1) .null .null .null .null .null .null .null v2 v3 v4 .null h1 n0 (Nat.le_trans Z0 E1.1) G1 O2 P5 eA SE XE FE F2 rfl rfl rfl rfl rfl rfl rfl rfl r_v2 r_v3 r_v4 rfl A1 (D1 (Or.inr (hw _ (List.mem_of_getElem? (i := 45) rfl))) pf_3) (D1 (Or.inr (hw _ (List.mem_of_getElem? (i := 47) rfl))) pf_4) (D1 (Or.inr (hw _ (List.mem_of_getElem? (i := 49) rfl))) pf_5) (D1 (Or.inr (hw _ (List.mem_of_getElem? (i := 51) rfl))) pf_3) (D1 (Or.inr (hw _ (List.mem_of_getElem? (i := 53) rfl))) pf_6) (D1 (Or.inr (hw _ (List.mem_of_getElem? (i := 55) rfl))) pf_3) (D1 (Or.inr (hw _ (List.mem_of_getElem? (i := 57) rfl))) pf_7) (D1 (Or.inr (hw _ (List.mem_of_getElem? (i := 59) rfl))) pf_3) (D1 (Or.inr (hw _ (List.mem_of_getElem? (i := 61) rfl))) pf_3) (D1 (Or.inr (hw _ (List.mem_of_getElem? (i := 63) rfl))) pf_3) (D1 (Or.inr (hw _ (List.mem_of_getElem? (i := 65) rfl))) pf_3) (D1 (Or.inr (hw _ (List.mem_of_getElem? (i := 67) rfl))) pf_3) (D1 (Or.inr (hw _ (List.mem_of_getElem? (i := 69) rfl))) pf_8) (Nat.le_trans (Nat.le_trans Z0 (Nat.le_refl _)) (Nat.le_of_eq g1.symm))) hZ (hw _ (List.mem_of_getElem? (i := 42) rfl)) (hw _ (List.mem_of_getElem? (i := 36) rfl)) (by decide) (by decide)) (g := (mkF m 17 #[.val (.ref a1), .val v2, .val v3, .val v4] [.null, v4, v3, v2, .null, .null, (.int (0 : Int32)), .null, .null, .null, .null, .null, (.ref a1), (.ref b1), (.ref b1)])) rfl (by rw [hml]; rfl) (Steps.refl _) (a := b1) (argsL := [(.ref a1), .null, .null, .null, .null, .null, (.int (0 : Int32)), .null, .null, v2, v3, v4, .null]) (rest := [(.ref b1)]) (lenOf pd_6 rfl) rfl (by show 2 * 0 + _ ≤ _; exact Nat.le_of_eq rfl) (hb hby d_prog_5_method_7_code_17) (fun _ _ => ⟨rfl, e1, (by decide : 1 + 0 ≤ _), (by decide : 13 + 0 ≤ _)⟩)
  dsimp only [Pt.U, Pt.locs, Pt.cells, Pt.slots] at X3 l3 y3 z3 st3 hQ3
  have X3 : Stand p l e ({ frames := 2, cells := 1, slots := 13, locals := 38 } : Room) s m _ below meth c T3 L3 1 13 := own_reX X3 y3 z3
  obtain ⟨rfl, Nq3, K3, f3_0, f3_1, f3_2, f3_3, f3_4, f3_5, f3_6, f3_7, f3_8, f3_9, f3_10, f3_11, f3_12, f3_13⟩ := hQ3
  have N3 := own_frApp N0 Nq3 l3
  refine Ends.go st3 ?_
  have K4 : Keep h0 T3.heap [] := (((Keep.refl h0 []).ext E1).trans K3 (allS (Or.inr (Nat.le_trans (Nat.le_refl _) (Nat.le_of_eq g1.symm))) all0))
  show Ends _ _ _ _ (T3.setTop (mkF m 20 #[.val (.ref a1), .val v2, .val v3, .val v4] [(.ref b1)]))
  exact own_finR X3 hx hlk Bd.returns rfl rfl (hb hby d_prog_5_method_7_code_20) rfl ⟨b1, rfl, N3, ((Keep.refl h0 []).trans K4 all0), (Nat.le_trans (Nat.le_refl _) (Nat.le_of_eq g1.symm)), f3_0, f3_1, f3_2, f3_3, f3_4, f3_5, f3_6, f3_7, f3_8, f3_9, f3_10, f3_11, f3_12, f3_13⟩ (by decide) (by decide)
def QrmText (Z : State) (a1 : Addr) (v1 : Value) (h0 : Heap) (n0 : Nat) (v : Option Value) (h : Heap) (L : List Loc) : Prop := v = some v1 ∧ Fr n0 L ∧ h = h0
theorem ef_rmText (m : MethodId) (a1 : Addr)  : entryFrame m #[(.ref a1)] 1 = mkF m 0 #[.val (.ref a1)] [] := by first | (simp [entryFrame, mkF, argsToLocals, maxLocals, Value.category]; done) | rfl
set_option maxRecDepth 65536 in
set_option maxHeartbeats 40000000 in
theorem rmText (l : Launch) (Z : State) (a0 : Array Value) (hw : ∀ d ∈ tables_1, d.before a0 Z = true) (ws : List Jvm.Cond) (a1 : Addr) (v1 : Value) (h0 : Heap) (n0 : Nat) (Z0 : n0 ≤ h0.size) (G1 : Int32) (O2 : Sta Z Z.heap "java/lang/String" "COMPACT_STRINGS" "Z" (.int G1)) (P5 : ¬ (G1 = (0 : Int32))) (eA : Addr) (SE : Sta Z Z.heap "java/util/Optional" "EMPTY" "Ljava/util/Optional;" (.ref eA)) (XE : Exa Z Z.heap eA "java/util/Optional") (FE : Fld Z Z.heap eA "java/util/Optional" "value" "Ljava/lang/Object;" .null) (X00 : Old Z n0 h0) (p_Fld_a1_text : Fld Z h0 a1 "com/example/operatory/operatory/fhir/SearchValue$Alternative" "text" "Ljava/lang/String;" v1) (r_v1 : Value.isRef v1 = true) :
    MetFree l (⟨"com/example/operatory/operatory/fhir/SearchValue$Alternative", "text", "()Ljava/lang/String;"⟩ : MethodName) (head1 (Jvm.Cond.code (⟨"com/example/operatory/operatory/fhir/SearchValue$Alternative", "text", "()Ljava/lang/String;"⟩ : MethodName) prog_5_method_8_code 1 (Option.some (Jvm.ClassFile.FieldType.object "java/lang/String")) :: ws) ({ frames := 0, cells := 0, slots := 0, locals := 0 } : Room)) (fun a U => a = #[(.ref a1)] ∧ Z.Warmed39 U.vm ∧ U.heap = h0) (fun _ _ _ _ _ => True) (fun _ U o U' => ∃ v L, o = .returned v ∧ QrmText Z a1 v1 h0 n0 v U'.heap L ∧ FrameEnd U o U' L ({ frames := 0, cells := 0, slots := 0, locals := 0 } : Room).cells ({ frames := 0, cells := 0, slots := 0, locals := 0 } : Room).slots) := by
  refine MetFree.of_bodySF (plainFor_of_name pn_com_example_operatory_operatory_fhir_SearchValue_Alternative) hisR ?_
  intro p e s m args below meth c s₁ Bd hml0 hP hK
  obtain ⟨rfl, hZ, hh⟩ := hP
  have hx := Bd.exec
  have hby := Bd.bytes
  have hml : c.maxLocals = 1 := hml0
  have hown : s.vm.findClass "com/example/operatory/operatory/fhir/SearchValue$Alternative" = some m.cls := findClass_of_methodNamed Bd.named
  have hnm := (name_of_methodNamed Bd.named Bd.method).1
  have hlk : meth.locks = false := BodyLoose.notSynchronized Bd
  have X0 : Stand p l e ({ frames := 0, cells := 0, slots := 0, locals := 0 } : Room) s m #[(.ref a1)] below meth c s₁ [] 0 0 := Stand.of_body Bd
  have e0 : s₁.heap = h0 := by rw [← hh, Bd.state]; rfl
  have N0 := Fr.nil n0
  show Ends p.tables e below (fun o U' => ∃ v L, o = .returned v ∧ QrmText Z a1 v1 h0 n0 v U'.heap L ∧ FrameEnd s o U' L ({ frames := 0, cells := 0, slots := 0, locals := 0 } : Room).cells ({ frames := 0, cells := 0, slots := 0, locals := 0 } : Room).slots) (s₁.setTop (entryFrame m #[(.ref a1)] 1))
  refine Ends.step (fun t k => castTop (ef_rmText m a1 ) k) ?_
  show Ends _ _ _ _ (s₁.setTop (mkF m 0 #[.val (.ref a1)] []))
  refine Ends.step (fun t k => XS.aloadN X0.here hx rfl (hb hby d_prog_5_method_8_code_0) rfl rfl k) ?_
  show Ends _ _ _ _ (s₁.setTop (mkF m 1 #[.val (.ref a1)] [(.ref a1)]))
  obtain ⟨T1, X1, e1, st1⟩ := getF X0 hx hZ hown (host := "") (Or.inl (hw _ (List.mem_of_getElem? (i := 44) rfl))) Via.refl e0 p_Fld_a1_text (g := (mkF m 1 #[.val (.ref a1)] [(.ref a1)])) rfl rfl (hb hby d_prog_5_method_8_code_1)
  refine Ends.step st1 ?_
  show Ends _ _ _ _ (T1.setTop (mkF m 4 #[.val (.ref a1)] [v1]))
  exact own_finR X1 hx hlk Bd.returns rfl r_v1 (hb hby d_prog_5_method_8_code_4) e1 ⟨rfl, N0, rfl⟩ (by decide) (by decide)
def QrmGg_type (Z : State) (a1 : Addr) (v1 : Value) (h0 : Heap) (n0 : Nat) (v : Option Value) (h : Heap) (L : List Loc) : Prop := ∃ x : Addr, v = some (.ref x) ∧ Fr n0 L ∧ Keep h0 h [] ∧ (Exa Z h x "java/util/Optional") ∧ (Fld Z h x "java/util/Optional" "value" "Ljava/lang/Object;" v1)
theorem ef_rmGg_type (m : MethodId) (a1 : Addr)  : entryFrame m #[(.ref a1)] 1 = mkF m 0 #[.val (.ref a1)] [] := by first | (simp [entryFrame, mkF, argsToLocals, maxLocals, Value.category]; done) | rfl
set_option maxRecDepth 65536 in
set_option maxHeartbeats 40000000 in
theorem rmGg_type (l : Launch) (Z : State) (a0 : Array Value) (hw : ∀ d ∈ tables_1, d.before a0 Z = true) (ws : List Jvm.Cond) (a1 : Addr) (v1 : Value) (h0 : Heap) (n0 : Nat) (Z0 : n0 ≤ h0.size) (G1 : Int32) (O2 : Sta Z Z.heap "java/lang/String" "COMPACT_STRINGS" "Z" (.int G1)) (P5 : ¬ (G1 = (0 : Int32))) (eA : Addr) (SE : Sta Z Z.heap "java/util/Optional" "EMPTY" "Ljava/util/Optional;" (.ref eA)) (XE : Exa Z Z.heap eA "java/util/Optional") (FE : Fld Z Z.heap eA "java/util/Optional" "value" "Ljava/lang/Object;" .null) (X00 : Old Z n0 h0) (p_Fld_a1_type : Fld Z h0 a1 "com/example/operatory/operatory/fhir/SearchValue$Alternative" "type" "Ljava/lang/String;" v1) (r_v1 : Value.isRef v1 = true) :
    MetFree l (⟨"com/example/operatory/operatory/fhir/SearchValue$Alternative", "type", "()Ljava/util/Optional;"⟩ : MethodName) (head1 (Jvm.Cond.code (⟨"com/example/operatory/operatory/fhir/SearchValue$Alternative", "type", "()Ljava/util/Optional;"⟩ : MethodName) prog_5_method_17_code 1 (Option.some (Jvm.ClassFile.FieldType.object "java/util/Optional")) :: ws) ({ frames := 3, cells := 1, slots := 1, locals := 38 } : Room)) (fun a U => a = #[(.ref a1)] ∧ Z.Warmed39 U.vm ∧ U.heap = h0) (fun _ _ _ _ _ => True) (fun _ U o U' => ∃ v L, o = .returned v ∧ QrmGg_type Z a1 v1 h0 n0 v U'.heap L ∧ FrameEnd U o U' L ({ frames := 3, cells := 1, slots := 1, locals := 38 } : Room).cells ({ frames := 3, cells := 1, slots := 1, locals := 38 } : Room).slots) := by
  refine MetFree.of_bodySF (plainFor_of_name pn_com_example_operatory_operatory_fhir_SearchValue_Alternative) hisR ?_
  intro p e s m args below meth c s₁ Bd hml0 hP hK
  obtain ⟨rfl, hZ, hh⟩ := hP
  have hx := Bd.exec
  have hby := Bd.bytes
  have hml : c.maxLocals = 1 := hml0
  have hown : s.vm.findClass "com/example/operatory/operatory/fhir/SearchValue$Alternative" = some m.cls := findClass_of_methodNamed Bd.named
  have hnm := (name_of_methodNamed Bd.named Bd.method).1
  have hlk : meth.locks = false := BodyLoose.notSynchronized Bd
  have X0 : Stand p l e ({ frames := 3, cells := 1, slots := 1, locals := 38 } : Room) s m #[(.ref a1)] below meth c s₁ [] 0 0 := Stand.of_body Bd
  have e0 : s₁.heap = h0 := by rw [← hh, Bd.state]; rfl
  have N0 := Fr.nil n0
  show Ends p.tables e below (fun o U' => ∃ v L, o = .returned v ∧ QrmGg_type Z a1 v1 h0 n0 v U'.heap L ∧ FrameEnd s o U' L ({ frames := 3, cells := 1, slots := 1, locals := 38 } : Room).cells ({ frames := 3, cells := 1, slots := 1, locals := 38 } : Room).slots) (s₁.setTop (entryFrame m #[(.ref a1)] 1))
  refine Ends.step (fun t k => castTop (ef_rmGg_type m a1 ) k) ?_
  show Ends _ _ _ _ (s₁.setTop (mkF m 0 #[.val (.ref a1)] []))
  refine Ends.step (fun t k => XS.aloadN X0.here hx rfl (hb hby d_prog_5_method_17_code_0) rfl rfl k) ?_
  show Ends _ _ _ _ (s₁.setTop (mkF m 1 #[.val (.ref a1)] [(.ref a1)]))
  obtain ⟨T1, X1, e1, st1⟩ := getF X0 hx hZ hown (host := "") (Or.inl (hw _ (List.mem_of_getElem? (i := 62) rfl))) Via.refl e0 p_Fld_a1_type (g := (mkF m 1 #[.val (.ref a1)] [(.ref a1)])) rfl rfl (hb hby d_prog_5_method_17_code_1)
  refine Ends.step st1 ?_
  show Ends _ _ _ _ (T1.setTop (mkF m 4 #[.val (.ref a1)] [v1]))
  obtain ⟨_, _, ⟨T2, L2, k2, n2⟩, -, X2, ⟨Lc2, hQ2, l2, y2, z2⟩, st2⟩ := Jvm.LawKit.callS X1 hx (y := (⟨"java/util/Optional", "ofNullable", "(Ljava/lang/Object;)Ljava/util/Optional;"⟩ : MethodName)) hown (mvT hZ (hw _ (List.mem_of_getElem? (i := 88) rfl))) (mvT hZ (hw _ (List.mem_of_getElem? (i := 89) rfl))) (mvT hZ (hw _ (List.mem_of_getElem? (i := 90) rfl))) (mvT hZ (hw _ (List.mem_of_getElem? (i := 91) rfl))) (by decide) (backOf (W := 0) (rmOpNg l Z a0 hw [] v1 h0 n0 Z0 G1 O2 P5 eA SE XE FE X00 r_v1) hZ (hw _ (List.mem_of_getElem? (i := 91) rfl)) (hw _ (List.mem_of_getElem? (i := 90) rfl)) (by decide) (by decide)) (g := (mkF m 4 #[.val (.ref a1)] [v1])) rfl (by rw [hml]; rfl) (argsL := [v1]) (rest := []) (lenOf pd_7 rfl) rfl (by show 2 * 0 + _ ≤ _; exact Nat.le_of_eq rfl) (hb hby d_prog_5_method_17_code_4) (fun _ _ => ⟨rfl, e1, (by decide : 0 + 1 ≤ _), (by decide : 0 + 1 ≤ _)⟩)
  dsimp only [Pt.U, Pt.locs, Pt.cells, Pt.slots] at X2 l2 y2 z2 st2 hQ2
  have X2 : Stand p l e ({ frames := 3, cells := 1, slots := 1, locals := 38 } : Room) s m _ below meth c T2 L2 1 1 := own_reX X2 y2 z2
  obtain ⟨x_2, rfl, Nq2, K2, f2_0, f2_1⟩ := hQ2
  have N2 := own_frApp N0 Nq2 l2
  refine Ends.step st2 ?_
  show Ends _ _ _ _ (T2.setTop (mkF m 7 #[.val (.ref a1)] [(.ref x_2)]))
  exact own_finR X2 hx hlk Bd.returns rfl rfl (hb hby d_prog_5_method_17_code_7) rfl ⟨x_2, rfl, N2, ((Keep.refl h0 []).trans K2 all0), f2_0, f2_1⟩ (by decide) (by decide)
def QrmGg_id (Z : State) (a1 : Addr) (v1 : Value) (h0 : Heap) (n0 : Nat) (v : Option Value) (h : Heap) (L : List Loc) : Prop := ∃ x : Addr, v = some (.ref x) ∧ Fr n0 L ∧ Keep h0 h [] ∧ (Exa Z h x "java/util/Optional") ∧ (Fld Z h x "java/util/Optional" "value" "Ljava/lang/Object;" v1)
theorem ef_rmGg_id (m : MethodId) (a1 : Addr)  : entryFrame m #[(.ref a1)] 1 = mkF m 0 #[.val (.ref a1)] [] := by first | (simp [entryFrame, mkF, argsToLocals, maxLocals, Value.category]; done) | rfl
set_option maxRecDepth 65536 in
set_option maxHeartbeats 40000000 in
theorem rmGg_id (l : Launch) (Z : State) (a0 : Array Value) (hw : ∀ d ∈ tables_1, d.before a0 Z = true) (ws : List Jvm.Cond) (a1 : Addr) (v1 : Value) (h0 : Heap) (n0 : Nat) (Z0 : n0 ≤ h0.size) (G1 : Int32) (O2 : Sta Z Z.heap "java/lang/String" "COMPACT_STRINGS" "Z" (.int G1)) (P5 : ¬ (G1 = (0 : Int32))) (eA : Addr) (SE : Sta Z Z.heap "java/util/Optional" "EMPTY" "Ljava/util/Optional;" (.ref eA)) (XE : Exa Z Z.heap eA "java/util/Optional") (FE : Fld Z Z.heap eA "java/util/Optional" "value" "Ljava/lang/Object;" .null) (X00 : Old Z n0 h0) (p_Fld_a1_id : Fld Z h0 a1 "com/example/operatory/operatory/fhir/SearchValue$Alternative" "id" "Ljava/lang/String;" v1) (r_v1 : Value.isRef v1 = true) :
    MetFree l (⟨"com/example/operatory/operatory/fhir/SearchValue$Alternative", "id", "()Ljava/util/Optional;"⟩ : MethodName) (head1 (Jvm.Cond.code (⟨"com/example/operatory/operatory/fhir/SearchValue$Alternative", "id", "()Ljava/util/Optional;"⟩ : MethodName) prog_5_method_18_code 1 (Option.some (Jvm.ClassFile.FieldType.object "java/util/Optional")) :: ws) ({ frames := 3, cells := 1, slots := 1, locals := 38 } : Room)) (fun a U => a = #[(.ref a1)] ∧ Z.Warmed39 U.vm ∧ U.heap = h0) (fun _ _ _ _ _ => True) (fun _ U o U' => ∃ v L, o = .returned v ∧ QrmGg_id Z a1 v1 h0 n0 v U'.heap L ∧ FrameEnd U o U' L ({ frames := 3, cells := 1, slots := 1, locals := 38 } : Room).cells ({ frames := 3, cells := 1, slots := 1, locals := 38 } : Room).slots) := by
  refine MetFree.of_bodySF (plainFor_of_name pn_com_example_operatory_operatory_fhir_SearchValue_Alternative) hisR ?_
  intro p e s m args below meth c s₁ Bd hml0 hP hK
  obtain ⟨rfl, hZ, hh⟩ := hP
  have hx := Bd.exec
  have hby := Bd.bytes
  have hml : c.maxLocals = 1 := hml0
  have hown : s.vm.findClass "com/example/operatory/operatory/fhir/SearchValue$Alternative" = some m.cls := findClass_of_methodNamed Bd.named
  have hnm := (name_of_methodNamed Bd.named Bd.method).1
  have hlk : meth.locks = false := BodyLoose.notSynchronized Bd
  have X0 : Stand p l e ({ frames := 3, cells := 1, slots := 1, locals := 38 } : Room) s m #[(.ref a1)] below meth c s₁ [] 0 0 := Stand.of_body Bd
  have e0 : s₁.heap = h0 := by rw [← hh, Bd.state]; rfl
  have N0 := Fr.nil n0
  show Ends p.tables e below (fun o U' => ∃ v L, o = .returned v ∧ QrmGg_id Z a1 v1 h0 n0 v U'.heap L ∧ FrameEnd s o U' L ({ frames := 3, cells := 1, slots := 1, locals := 38 } : Room).cells ({ frames := 3, cells := 1, slots := 1, locals := 38 } : Room).slots) (s₁.setTop (entryFrame m #[(.ref a1)] 1))
  refine Ends.step (fun t k => castTop (ef_rmGg_id m a1 ) k) ?_
  show Ends _ _ _ _ (s₁.setTop (mkF m 0 #[.val (.ref a1)] []))
  refine Ends.step (fun t k => XS.aloadN X0.here hx rfl (hb hby d_prog_5_method_18_code_0) rfl rfl k) ?_
  show Ends _ _ _ _ (s₁.setTop (mkF m 1 #[.val (.ref a1)] [(.ref a1)]))
  obtain ⟨T1, X1, e1, st1⟩ := getF X0 hx hZ hown (host := "") (Or.inl (hw _ (List.mem_of_getElem? (i := 64) rfl))) Via.refl e0 p_Fld_a1_id (g := (mkF m 1 #[.val (.ref a1)] [(.ref a1)])) rfl rfl (hb hby d_prog_5_method_18_code_1)
  refine Ends.step st1 ?_
  show Ends _ _ _ _ (T1.setTop (mkF m 4 #[.val (.ref a1)] [v1]))
  obtain ⟨_, _, ⟨T2, L2, k2, n2⟩, -, X2, ⟨Lc2, hQ2, l2, y2, z2⟩, st2⟩ := Jvm.LawKit.callS X1 hx (y := (⟨"java/util/Optional", "ofNullable", "(Ljava/lang/Object;)Ljava/util/Optional;"⟩ : MethodName)) hown (mvT hZ (hw _ (List.mem_of_getElem? (i := 88) rfl))) (mvT hZ (hw _ (List.mem_of_getElem? (i := 89) rfl))) (mvT hZ (hw _ (List.mem_of_getElem? (i := 90) rfl))) (mvT hZ (hw _ (List.mem_of_getElem? (i := 91) rfl))) (by decide) (backOf (W := 0) (rmOpNg l Z a0 hw [] v1 h0 n0 Z0 G1 O2 P5 eA SE XE FE X00 r_v1) hZ (hw _ (List.mem_of_getElem? (i := 91) rfl)) (hw _ (List.mem_of_getElem? (i := 90) rfl)) (by decide) (by decide)) (g := (mkF m 4 #[.val (.ref a1)] [v1])) rfl (by rw [hml]; rfl) (argsL := [v1]) (rest := []) (lenOf pd_7 rfl) rfl (by show 2 * 0 + _ ≤ _; exact Nat.le_of_eq rfl) (hb hby d_prog_5_method_18_code_4) (fun _ _ => ⟨rfl, e1, (by decide : 0 + 1 ≤ _), (by decide : 0 + 1 ≤ _)⟩)
  dsimp only [Pt.U, Pt.locs, Pt.cells, Pt.slots] at X2 l2 y2 z2 st2 hQ2
  have X2 : Stand p l e ({ frames := 3, cells := 1, slots := 1, locals := 38 } : Room) s m _ below meth c T2 L2 1 1 := own_reX X2 y2 z2
  obtain ⟨x_2, rfl, Nq2, K2, f2_0, f2_1⟩ := hQ2
  have N2 := own_frApp N0 Nq2 l2
  refine Ends.step st2 ?_
  show Ends _ _ _ _ (T2.setTop (mkF m 7 #[.val (.ref a1)] [(.ref x_2)]))
  exact own_finR X2 hx hlk Bd.returns rfl rfl (hb hby d_prog_5_method_18_code_7) rfl ⟨x_2, rfl, N2, ((Keep.refl h0 []).trans K2 all0), f2_0, f2_1⟩ (by decide) (by decide)
def QrmGg_url (Z : State) (a1 : Addr) (v1 : Value) (h0 : Heap) (n0 : Nat) (v : Option Value) (h : Heap) (L : List Loc) : Prop := ∃ x : Addr, v = some (.ref x) ∧ Fr n0 L ∧ Keep h0 h [] ∧ (Exa Z h x "java/util/Optional") ∧ (Fld Z h x "java/util/Optional" "value" "Ljava/lang/Object;" v1)
theorem ef_rmGg_url (m : MethodId) (a1 : Addr)  : entryFrame m #[(.ref a1)] 1 = mkF m 0 #[.val (.ref a1)] [] := by first | (simp [entryFrame, mkF, argsToLocals, maxLocals, Value.category]; done) | rfl
set_option maxRecDepth 65536 in
set_option maxHeartbeats 40000000 in
theorem rmGg_url (l : Launch) (Z : State) (a0 : Array Value) (hw : ∀ d ∈ tables_1, d.before a0 Z = true) (ws : List Jvm.Cond) (a1 : Addr) (v1 : Value) (h0 : Heap) (n0 : Nat) (Z0 : n0 ≤ h0.size) (G1 : Int32) (O2 : Sta Z Z.heap "java/lang/String" "COMPACT_STRINGS" "Z" (.int G1)) (P5 : ¬ (G1 = (0 : Int32))) (eA : Addr) (SE : Sta Z Z.heap "java/util/Optional" "EMPTY" "Ljava/util/Optional;" (.ref eA)) (XE : Exa Z Z.heap eA "java/util/Optional") (FE : Fld Z Z.heap eA "java/util/Optional" "value" "Ljava/lang/Object;" .null) (X00 : Old Z n0 h0) (p_Fld_a1_url : Fld Z h0 a1 "com/example/operatory/operatory/fhir/SearchValue$Alternative" "url" "Ljava/lang/String;" v1) (r_v1 : Value.isRef v1 = true) :
    MetFree l (⟨"com/example/operatory/operatory/fhir/SearchValue$Alternative", "url", "()Ljava/util/Optional;"⟩ : MethodName) (head1 (Jvm.Cond.code (⟨"com/example/operatory/operatory/fhir/SearchValue$Alternative", "url", "()Ljava/util/Optional;"⟩ : MethodName) prog_5_method_19_code 1 (Option.some (Jvm.ClassFile.FieldType.object "java/util/Optional")) :: ws) ({ frames := 3, cells := 1, slots := 1, locals := 38 } : Room)) (fun a U => a = #[(.ref a1)] ∧ Z.Warmed39 U.vm ∧ U.heap = h0) (fun _ _ _ _ _ => True) (fun _ U o U' => ∃ v L, o = .returned v ∧ QrmGg_url Z a1 v1 h0 n0 v U'.heap L ∧ FrameEnd U o U' L ({ frames := 3, cells := 1, slots := 1, locals := 38 } : Room).cells ({ frames := 3, cells := 1, slots := 1, locals := 38 } : Room).slots) := by
  refine MetFree.of_bodySF (plainFor_of_name pn_com_example_operatory_operatory_fhir_SearchValue_Alternative) hisR ?_
  intro p e s m args below meth c s₁ Bd hml0 hP hK
  obtain ⟨rfl, hZ, hh⟩ := hP
  have hx := Bd.exec
  have hby := Bd.bytes
  have hml : c.maxLocals = 1 := hml0
  have hown : s.vm.findClass "com/example/operatory/operatory/fhir/SearchValue$Alternative" = some m.cls := findClass_of_methodNamed Bd.named
  have hnm := (name_of_methodNamed Bd.named Bd.method).1
  have hlk : meth.locks = false := BodyLoose.notSynchronized Bd
  have X0 : Stand p l e ({ frames := 3, cells := 1, slots := 1, locals := 38 } : Room) s m #[(.ref a1)] below meth c s₁ [] 0 0 := Stand.of_body Bd
  have e0 : s₁.heap = h0 := by rw [← hh, Bd.state]; rfl
  have N0 := Fr.nil n0
  show Ends p.tables e below (fun o U' => ∃ v L, o = .returned v ∧ QrmGg_url Z a1 v1 h0 n0 v U'.heap L ∧ FrameEnd s o U' L ({ frames := 3, cells := 1, slots := 1, locals := 38 } : Room).cells ({ frames := 3, cells := 1, slots := 1, locals := 38 } : Room).slots) (s₁.setTop (entryFrame m #[(.ref a1)] 1))
  refine Ends.step (fun t k => castTop (ef_rmGg_url m a1 ) k) ?_
  show Ends _ _ _ _ (s₁.setTop (mkF m 0 #[.val (.ref a1)] []))
  refine Ends.step (fun t k => XS.aloadN X0.here hx rfl (hb hby d_prog_5_method_19_code_0) rfl rfl k) ?_
  show Ends _ _ _ _ (s₁.setTop (mkF m 1 #[.val (.ref a1)] [(.ref a1)]))
  obtain ⟨T1, X1, e1, st1⟩ := getF X0 hx hZ hown (host := "") (Or.inl (hw _ (List.mem_of_getElem? (i := 66) rfl))) Via.refl e0 p_Fld_a1_url (g := (mkF m 1 #[.val (.ref a1)] [(.ref a1)])) rfl rfl (hb hby d_prog_5_method_19_code_1)
  refine Ends.step st1 ?_
  show Ends _ _ _ _ (T1.setTop (mkF m 4 #[.val (.ref a1)] [v1]))
  obtain ⟨_, _, ⟨T2, L2, k2, n2⟩, -, X2, ⟨Lc2, hQ2, l2, y2, z2⟩, st2⟩ := Jvm.LawKit.callS X1 hx (y := (⟨"java/util/Optional", "ofNullable", "(Ljava/lang/Object;)Ljava/util/Optional;"⟩ : MethodName)) hown (mvT hZ (hw _ (List.mem_of_getElem? (i := 88) rfl))) (mvT hZ (hw _ (List.mem_of_getElem? (i := 89) rfl))) (mvT hZ (hw _ (List.mem_of_getElem? (i := 90) rfl))) (mvT hZ (hw _ (List.mem_of_getElem? (i := 91) rfl))) (by decide) (backOf (W := 0) (rmOpNg l Z a0 hw [] v1 h0 n0 Z0 G1 O2 P5 eA SE XE FE X00 r_v1) hZ (hw _ (List.mem_of_getElem? (i := 91) rfl)) (hw _ (List.mem_of_getElem? (i := 90) rfl)) (by decide) (by decide)) (g := (mkF m 4 #[.val (.ref a1)] [v1])) rfl (by rw [hml]; rfl) (argsL := [v1]) (rest := []) (lenOf pd_7 rfl) rfl (by show 2 * 0 + _ ≤ _; exact Nat.le_of_eq rfl) (hb hby d_prog_5_method_19_code_4) (fun _ _ => ⟨rfl, e1, (by decide : 0 + 1 ≤ _), (by decide : 0 + 1 ≤ _)⟩)
  dsimp only [Pt.U, Pt.locs, Pt.cells, Pt.slots] at X2 l2 y2 z2 st2 hQ2
  have X2 : Stand p l e ({ frames := 3, cells := 1, slots := 1, locals := 38 } : Room) s m _ below meth c T2 L2 1 1 := own_reX X2 y2 z2
  obtain ⟨x_2, rfl, Nq2, K2, f2_0, f2_1⟩ := hQ2
  have N2 := own_frApp N0 Nq2 l2
  refine Ends.step st2 ?_
  show Ends _ _ _ _ (T2.setTop (mkF m 7 #[.val (.ref a1)] [(.ref x_2)]))
  exact own_finR X2 hx hlk Bd.returns rfl rfl (hb hby d_prog_5_method_19_code_7) rfl ⟨x_2, rfl, N2, ((Keep.refl h0 []).trans K2 all0), f2_0, f2_1⟩ (by decide) (by decide)
def QrmGn_prefix (Z : State) (a1 : Addr) (eA : Addr) (h0 : Heap) (n0 : Nat) (v : Option Value) (h : Heap) (L : List Loc) : Prop := v = some (.ref eA) ∧ Fr n0 L ∧ h = h0
theorem ef_rmGn_prefix (m : MethodId) (a1 : Addr)  : entryFrame m #[(.ref a1)] 1 = mkF m 0 #[.val (.ref a1)] [] := by first | (simp [entryFrame, mkF, argsToLocals, maxLocals, Value.category]; done) | rfl
set_option maxRecDepth 65536 in
set_option maxHeartbeats 40000000 in
theorem rmGn_prefix (l : Launch) (Z : State) (a0 : Array Value) (hw : ∀ d ∈ tables_1, d.before a0 Z = true) (ws : List Jvm.Cond) (a1 : Addr) (h0 : Heap) (n0 : Nat) (Z0 : n0 ≤ h0.size) (G1 : Int32) (O2 : Sta Z Z.heap "java/lang/String" "COMPACT_STRINGS" "Z" (.int G1)) (P5 : ¬ (G1 = (0 : Int32))) (eA : Addr) (SE : Sta Z Z.heap "java/util/Optional" "EMPTY" "Ljava/util/Optional;" (.ref eA)) (XE : Exa Z Z.heap eA "java/util/Optional") (FE : Fld Z Z.heap eA "java/util/Optional" "value" "Ljava/lang/Object;" .null) (X00 : Old Z n0 h0) (p_Fld_a1_prefix : Fld Z h0 a1 "com/example/operatory/operatory/fhir/SearchValue$Alternative" "prefix" "Lcom/example/operatory/operatory/fhir/SearchValue$Prefix;" .null) :
    MetFree l (⟨"com/example/operatory/operatory/fhir/SearchValue$Alternative", "prefix", "()Ljava/util/Optional;"⟩ : MethodName) (head1 (Jvm.Cond.code (⟨"com/example/operatory/operatory/fhir/SearchValue$Alternative", "prefix", "()Ljava/util/Optional;"⟩ : MethodName) prog_5_method_9_code 1 (Option.some (Jvm.ClassFile.FieldType.object "java/util/Optional")) :: ws) ({ frames := 1, cells := 0, slots := 0, locals := 12 } : Room)) (fun a U => a = #[(.ref a1)] ∧ Z.Warmed39 U.vm ∧ U.heap = h0) (fun _ _ _ _ _ => True) (fun _ U o U' => ∃ v L, o = .returned v ∧ QrmGn_prefix Z a1 eA h0 n0 v U'.heap L ∧ FrameEnd U o U' L ({ frames := 1, cells := 0, slots := 0, locals := 12 } : Room).cells ({ frames := 1, cells := 0, slots := 0, locals := 12 } : Room).slots) := by
  refine MetFree.of_bodySF (plainFor_of_name pn_com_example_operatory_operatory_fhir_SearchValue_Alternative) hisR ?_
  intro p e s m args below meth c s₁ Bd hml0 hP hK
  obtain ⟨rfl, hZ, hh⟩ := hP
  have hx := Bd.exec
  have hby := Bd.bytes
  have hml : c.maxLocals = 1 := hml0
  have hown : s.vm.findClass "com/example/operatory/operatory/fhir/SearchValue$Alternative" = some m.cls := findClass_of_methodNamed Bd.named
  have hnm := (name_of_methodNamed Bd.named Bd.method).1
  have hlk : meth.locks = false := BodyLoose.notSynchronized Bd
  have X0 : Stand p l e ({ frames := 1, cells := 0, slots := 0, locals := 12 } : Room) s m #[(.ref a1)] below meth c s₁ [] 0 0 := Stand.of_body Bd
  have e0 : s₁.heap = h0 := by rw [← hh, Bd.state]; rfl
  have N0 := Fr.nil n0
  show Ends p.tables e below (fun o U' => ∃ v L, o = .returned v ∧ QrmGn_prefix Z a1 eA h0 n0 v U'.heap L ∧ FrameEnd s o U' L ({ frames := 1, cells := 0, slots := 0, locals := 12 } : Room).cells ({ frames := 1, cells := 0, slots := 0, locals := 12 } : Room).slots) (s₁.setTop (entryFrame m #[(.ref a1)] 1))
  refine Ends.step (fun t k => castTop (ef_rmGn_prefix m a1 ) k) ?_
  show Ends _ _ _ _ (s₁.setTop (mkF m 0 #[.val (.ref a1)] []))
  refine Ends.step (fun t k => XS.aloadN X0.here hx rfl (hb hby d_prog_5_method_9_code_0) rfl rfl k) ?_
  show Ends _ _ _ _ (s₁.setTop (mkF m 1 #[.val (.ref a1)] [(.ref a1)]))
  obtain ⟨T1, X1, e1, st1⟩ := getF X0 hx hZ hown (host := "") (Or.inl (hw _ (List.mem_of_getElem? (i := 46) rfl))) Via.refl e0 p_Fld_a1_prefix (g := (mkF m 1 #[.val (.ref a1)] [(.ref a1)])) rfl rfl (hb hby d_prog_5_method_9_code_1)
  refine Ends.step st1 ?_
  show Ends _ _ _ _ (T1.setTop (mkF m 4 #[.val (.ref a1)] [.null]))
  obtain ⟨_, _, ⟨T2, L2, k2, n2⟩, -, X2, ⟨Lc2, hQ2, l2, y2, z2⟩, st2⟩ := Jvm.LawKit.callS X1 hx (y := (⟨"java/util/Optional", "ofNullable", "(Ljava/lang/Object;)Ljava/util/Optional;"⟩ : MethodName)) hown (mvT hZ (hw _ (List.mem_of_getElem? (i := 88) rfl))) (mvT hZ (hw _ (List.mem_of_getElem? (i := 89) rfl))) (mvT hZ (hw _ (List.mem_of_getElem? (i := 90) rfl))) (mvT hZ (hw _ (List.mem_of_getElem? (i := 91) rfl))) (by decide) (backOf (W := 0) (rmOpNn l Z a0 hw []  h0 n0 Z0 G1 O2 P5 eA SE XE FE X00 ) hZ (hw _ (List.mem_of_getElem? (i := 91) rfl)) (hw _ (List.mem_of_getElem? (i := 90) rfl)) (by decide) (by decide)) (g := (mkF m 4 #[.val (.ref a1)] [.null])) rfl (by rw [hml]; rfl) (argsL := [.null]) (rest := []) (lenOf pd_7 rfl) rfl (by show 2 * 0 + _ ≤ _; exact Nat.le_of_eq rfl) (hb hby d_prog_5_method_9_code_4) (fun _ _ => ⟨rfl, e1, (by decide : 0 + 0 ≤ _), (by decide : 0 + 0 ≤ _)⟩)
  dsimp only [Pt.U, Pt.locs, Pt.cells, Pt.slots] at X2 l2 y2 z2 st2 hQ2
  have X2 : Stand p l e ({ frames := 1, cells := 0, slots := 0, locals := 12 } : Room) s m _ below meth c T2 L2 0 0 := own_reX X2 y2 z2
  obtain ⟨rfl, Nq2, eh2⟩ := hQ2
  have N2 := own_frApp N0 Nq2 l2
  refine Ends.step st2 ?_
  show Ends _ _ _ _ (T2.setTop (mkF m 7 #[.val (.ref a1)] [(.ref eA)]))
  exact own_finR X2 hx hlk Bd.returns rfl rfl (hb hby d_prog_5_method_9_code_7) eh2 ⟨rfl, N2, rfl⟩ (by decide) (by decide)
def QrmGn_number (Z : State) (a1 : Addr) (eA : Addr) (h0 : Heap) (n0 : Nat) (v : Option Value) (h : Heap) (L : List Loc) : Prop := v = some (.ref eA) ∧ Fr n0 L ∧ h = h0
theorem ef_rmGn_number (m : MethodId) (a1 : Addr)  : entryFrame m #[(.ref a1)] 1 = mkF m 0 #[.val (.ref a1)] [] := by first | (simp [entryFrame, mkF, argsToLocals, maxLocals, Value.category]; done) | rfl
set_option maxRecDepth 65536 in
set_option maxHeartbeats 40000000 in
theorem rmGn_number (l : Launch) (Z : State) (a0 : Array Value) (hw : ∀ d ∈ tables_1, d.before a0 Z = true) (ws : List Jvm.Cond) (a1 : Addr) (h0 : Heap) (n0 : Nat) (Z0 : n0 ≤ h0.size) (G1 : Int32) (O2 : Sta Z Z.heap "java/lang/String" "COMPACT_STRINGS" "Z" (.int G1)) (P5 : ¬ (G1 = (0 : Int32))) (eA : Addr) (SE : Sta Z Z.heap "java/util/Optional" "EMPTY" "Ljava/util/Optional;" (.ref eA)) (XE : Exa Z Z.heap eA "java/util/Optional") (FE : Fld Z Z.heap eA "java/util/Optional" "value" "Ljava/lang/Object;" .null) (X00 : Old Z n0 h0) (p_Fld_a1_number : Fld Z h0 a1 "com/example/operatory/operatory/fhir/SearchValue$Alternative" "number" "Ljava/math/BigDecimal;" .null) :
    MetFree l (⟨"com/example/operatory/operatory/fhir/SearchValue$Alternative", "number", "()Ljava/util/Optional;"⟩ : MethodName) (head1 (Jvm.Cond.code (⟨"com/example/operatory/operatory/fhir/SearchValue$Alternative", "number", "()Ljava/util/Optional;"⟩ : MethodName) prog_5_method_10_code 1 (Option.some (Jvm.ClassFile.FieldType.object "java/util/Optional")) :: ws) ({ frames := 1, cells := 0, slots := 0, locals := 12 } : Room)) (fun a U => a = #[(.ref a1)] ∧ Z.Warmed39 U.vm ∧ U.heap = h0) (fun _ _ _ _ _ => True) (fun _ U o U' => ∃ v L, o = .returned v ∧ QrmGn_number Z a1 eA h0 n0 v U'.heap L ∧ FrameEnd U o U' L ({ frames := 1, cells := 0, slots := 0, locals := 12 } : Room).cells ({ frames := 1, cells := 0, slots := 0, locals := 12 } : Room).slots) := by
  refine MetFree.of_bodySF (plainFor_of_name pn_com_example_operatory_operatory_fhir_SearchValue_Alternative) hisR ?_
  intro p e s m args below meth c s₁ Bd hml0 hP hK
  obtain ⟨rfl, hZ, hh⟩ := hP
  have hx := Bd.exec
  have hby := Bd.bytes
  have hml : c.maxLocals = 1 := hml0
  have hown : s.vm.findClass "com/example/operatory/operatory/fhir/SearchValue$Alternative" = some m.cls := findClass_of_methodNamed Bd.named
  have hnm := (name_of_methodNamed Bd.named Bd.method).1
  have hlk : meth.locks = false := BodyLoose.notSynchronized Bd
  have X0 : Stand p l e ({ frames := 1, cells := 0, slots := 0, locals := 12 } : Room) s m #[(.ref a1)] below meth c s₁ [] 0 0 := Stand.of_body Bd
  have e0 : s₁.heap = h0 := by rw [← hh, Bd.state]; rfl
  have N0 := Fr.nil n0
  show Ends p.tables e below (fun o U' => ∃ v L, o = .returned v ∧ QrmGn_number Z a1 eA h0 n0 v U'.heap L ∧ FrameEnd s o U' L ({ frames := 1, cells := 0, slots := 0, locals := 12 } : Room).cells ({ frames := 1, cells := 0, slots := 0, locals := 12 } : Room).slots) (s₁.setTop (entryFrame m #[(.ref a1)] 1))
  refine Ends.step (fun t k => castTop (ef_rmGn_number m a1 ) k) ?_
  show Ends _ _ _ _ (s₁.setTop (mkF m 0 #[.val (.ref a1)] []))
  refine Ends.step (fun t k => XS.aloadN X0.here hx rfl (hb hby d_prog_5_method_10_code_0) rfl rfl k) ?_
  show Ends _ _ _ _ (s₁.setTop (mkF m 1 #[.val (.ref a1)] [(.ref a1)]))
  obtain ⟨T1, X1, e1, st1⟩ := getF X0 hx hZ hown (host := "") (Or.inl (hw _ (List.mem_of_getElem? (i := 48) rfl))) Via.refl e0 p_Fld_a1_number (g := (mkF m 1 #[.val (.ref a1)] [(.ref a1)])) rfl rfl (hb hby d_prog_5_method_10_code_1)
  refine Ends.step st1 ?_
  show Ends _ _ _ _ (T1.setTop (mkF m 4 #[.val (.ref a1)] [.null]))
  obtain ⟨_, _, ⟨T2, L2, k2, n2⟩, -, X2, ⟨Lc2, hQ2, l2, y2, z2⟩, st2⟩ := Jvm.LawKit.callS X1 hx (y := (⟨"java/util/Optional", "ofNullable", "(Ljava/lang/Object;)Ljava/util/Optional;"⟩ : MethodName)) hown (mvT hZ (hw _ (List.mem_of_getElem? (i := 88) rfl))) (mvT hZ (hw _ (List.mem_of_getElem? (i := 89) rfl))) (mvT hZ (hw _ (List.mem_of_getElem? (i := 90) rfl))) (mvT hZ (hw _ (List.mem_of_getElem? (i := 91) rfl))) (by decide) (backOf (W := 0) (rmOpNn l Z a0 hw []  h0 n0 Z0 G1 O2 P5 eA SE XE FE X00 ) hZ (hw _ (List.mem_of_getElem? (i := 91) rfl)) (hw _ (List.mem_of_getElem? (i := 90) rfl)) (by decide) (by decide)) (g := (mkF m 4 #[.val (.ref a1)] [.null])) rfl (by rw [hml]; rfl) (argsL := [.null]) (rest := []) (lenOf pd_7 rfl) rfl (by show 2 * 0 + _ ≤ _; exact Nat.le_of_eq rfl) (hb hby d_prog_5_method_10_code_4) (fun _ _ => ⟨rfl, e1, (by decide : 0 + 0 ≤ _), (by decide : 0 + 0 ≤ _)⟩)
  dsimp only [Pt.U, Pt.locs, Pt.cells, Pt.slots] at X2 l2 y2 z2 st2 hQ2
  have X2 : Stand p l e ({ frames := 1, cells := 0, slots := 0, locals := 12 } : Room) s m _ below meth c T2 L2 0 0 := own_reX X2 y2 z2
  obtain ⟨rfl, Nq2, eh2⟩ := hQ2
  have N2 := own_frApp N0 Nq2 l2
  refine Ends.step st2 ?_
  show Ends _ _ _ _ (T2.setTop (mkF m 7 #[.val (.ref a1)] [(.ref eA)]))
  exact own_finR X2 hx hlk Bd.returns rfl rfl (hb hby d_prog_5_method_10_code_7) eh2 ⟨rfl, N2, rfl⟩ (by decide) (by decide)
def QrmGn_date (Z : State) (a1 : Addr) (eA : Addr) (h0 : Heap) (n0 : Nat) (v : Option Value) (h : Heap) (L : List Loc) : Prop := v = some (.ref eA) ∧ Fr n0 L ∧ h = h0
theorem ef_rmGn_date (m : MethodId) (a1 : Addr)  : entryFrame m #[(.ref a1)] 1 = mkF m 0 #[.val (.ref a1)] [] := by first | (simp [entryFrame, mkF, argsToLocals, maxLocals, Value.category]; done) | rfl
set_option maxRecDepth 65536 in
set_option maxHeartbeats 40000000 in
theorem rmGn_date (l : Launch) (Z : State) (a0 : Array Value) (hw : ∀ d ∈ tables_1, d.before a0 Z = true) (ws : List Jvm.Cond) (a1 : Addr) (h0 : Heap) (n0 : Nat) (Z0 : n0 ≤ h0.size) (G1 : Int32) (O2 : Sta Z Z.heap "java/lang/String" "COMPACT_STRINGS" "Z" (.int G1)) (P5 : ¬ (G1 = (0 : Int32))) (eA : Addr) (SE : Sta Z Z.heap "java/util/Optional" "EMPTY" "Ljava/util/Optional;" (.ref eA)) (XE : Exa Z Z.heap eA "java/util/Optional") (FE : Fld Z Z.heap eA "java/util/Optional" "value" "Ljava/lang/Object;" .null) (X00 : Old Z n0 h0) (p_Fld_a1_date : Fld Z h0 a1 "com/example/operatory/operatory/fhir/SearchValue$Alternative" "date" "Ljava/lang/String;" .null) :
    MetFree l (⟨"com/example/operatory/operatory/fhir/SearchValue$Alternative", "date", "()Ljava/util/Optional;"⟩ : MethodName) (head1 (Jvm.Cond.code (⟨"com/example/operatory/operatory/fhir/SearchValue$Alternative", "date", "()Ljava/util/Optional;"⟩ : MethodName) prog_5_method_11_code 1 (Option.some (Jvm.ClassFile.FieldType.object "java/util/Optional")) :: ws) ({ frames := 1, cells := 0, slots := 0, locals := 12 } : Room)) (fun a U => a = #[(.ref a1)] ∧ Z.Warmed39 U.vm ∧ U.heap = h0) (fun _ _ _ _ _ => True) (fun _ U o U' => ∃ v L, o = .returned v ∧ QrmGn_date Z a1 eA h0 n0 v U'.heap L ∧ FrameEnd U o U' L ({ frames := 1, cells := 0, slots := 0, locals := 12 } : Room).cells ({ frames := 1, cells := 0, slots := 0, locals := 12 } : Room).slots) := by
  refine MetFree.of_bodySF (plainFor_of_name pn_com_example_operatory_operatory_fhir_SearchValue_Alternative) hisR ?_
  intro p e s m args below meth c s₁ Bd hml0 hP hK
  obtain ⟨rfl, hZ, hh⟩ := hP
  have hx := Bd.exec
  have hby := Bd.bytes
  have hml : c.maxLocals = 1 := hml0
  have hown : s.vm.findClass "com/example/operatory/operatory/fhir/SearchValue$Alternative" = some m.cls := findClass_of_methodNamed Bd.named
  have hnm := (name_of_methodNamed Bd.named Bd.method).1
  have hlk : meth.locks = false := BodyLoose.notSynchronized Bd
  have X0 : Stand p l e ({ frames := 1, cells := 0, slots := 0, locals := 12 } : Room) s m #[(.ref a1)] below meth c s₁ [] 0 0 := Stand.of_body Bd
  have e0 : s₁.heap = h0 := by rw [← hh, Bd.state]; rfl
  have N0 := Fr.nil n0
  show Ends p.tables e below (fun o U' => ∃ v L, o = .returned v ∧ QrmGn_date Z a1 eA h0 n0 v U'.heap L ∧ FrameEnd s o U' L ({ frames := 1, cells := 0, slots := 0, locals := 12 } : Room).cells ({ frames := 1, cells := 0, slots := 0, locals := 12 } : Room).slots) (s₁.setTop (entryFrame m #[(.ref a1)] 1))
  refine Ends.step (fun t k => castTop (ef_rmGn_date m a1 ) k) ?_
  show Ends _ _ _ _ (s₁.setTop (mkF m 0 #[.val (.ref a1)] []))
  refine Ends.step (fun t k => XS.aloadN X0.here hx rfl (hb hby d_prog_5_method_11_code_0) rfl rfl k) ?_
  show Ends _ _ _ _ (s₁.setTop (mkF m 1 #[.val (.ref a1)] [(.ref a1)]))
  obtain ⟨T1, X1, e1, st1⟩ := getF X0 hx hZ hown (host := "") (Or.inl (hw _ (List.mem_of_getElem? (i := 50) rfl))) Via.refl e0 p_Fld_a1_date (g := (mkF m 1 #[.val (.ref a1)] [(.ref a1)])) rfl rfl (hb hby d_prog_5_method_11_code_1)
  refine Ends.step st1 ?_
  show Ends _ _ _ _ (T1.setTop (mkF m 4 #[.val (.ref a1)] [.null]))
  obtain ⟨_, _, ⟨T2, L2, k2, n2⟩, -, X2, ⟨Lc2, hQ2, l2, y2, z2⟩, st2⟩ := Jvm.LawKit.callS X1 hx (y := (⟨"java/util/Optional", "ofNullable", "(Ljava/lang/Object;)Ljava/util/Optional;"⟩ : MethodName)) hown (mvT hZ (hw _ (List.mem_of_getElem? (i := 88) rfl))) (mvT hZ (hw _ (List.mem_of_getElem? (i := 89) rfl))) (mvT hZ (hw _ (List.mem_of_getElem? (i := 90) rfl))) (mvT hZ (hw _ (List.mem_of_getElem? (i := 91) rfl))) (by decide) (backOf (W := 0) (rmOpNn l Z a0 hw []  h0 n0 Z0 G1 O2 P5 eA SE XE FE X00 ) hZ (hw _ (List.mem_of_getElem? (i := 91) rfl)) (hw _ (List.mem_of_getElem? (i := 90) rfl)) (by decide) (by decide)) (g := (mkF m 4 #[.val (.ref a1)] [.null])) rfl (by rw [hml]; rfl) (argsL := [.null]) (rest := []) (lenOf pd_7 rfl) rfl (by show 2 * 0 + _ ≤ _; exact Nat.le_of_eq rfl) (hb hby d_prog_5_method_11_code_4) (fun _ _ => ⟨rfl, e1, (by decide : 0 + 0 ≤ _), (by decide : 0 + 0 ≤ _)⟩)
  dsimp only [Pt.U, Pt.locs, Pt.cells, Pt.slots] at X2 l2 y2 z2 st2 hQ2
  have X2 : Stand p l e ({ frames := 1, cells := 0, slots := 0, locals := 12 } : Room) s m _ below meth c T2 L2 0 0 := own_reX X2 y2 z2
  obtain ⟨rfl, Nq2, eh2⟩ := hQ2
  have N2 := own_frApp N0 Nq2 l2
  refine Ends.step st2 ?_
  show Ends _ _ _ _ (T2.setTop (mkF m 7 #[.val (.ref a1)] [(.ref eA)]))
  exact own_finR X2 hx hlk Bd.returns rfl rfl (hb hby d_prog_5_method_11_code_7) eh2 ⟨rfl, N2, rfl⟩ (by decide) (by decide)
def QrmGn_precision (Z : State) (a1 : Addr) (eA : Addr) (h0 : Heap) (n0 : Nat) (v : Option Value) (h : Heap) (L : List Loc) : Prop := v = some (.ref eA) ∧ Fr n0 L ∧ h = h0
theorem ef_rmGn_precision (m : MethodId) (a1 : Addr)  : entryFrame m #[(.ref a1)] 1 = mkF m 0 #[.val (.ref a1)] [] := by first | (simp [entryFrame, mkF, argsToLocals, maxLocals, Value.category]; done) | rfl
set_option maxRecDepth 65536 in
set_option maxHeartbeats 40000000 in
theorem rmGn_precision (l : Launch) (Z : State) (a0 : Array Value) (hw : ∀ d ∈ tables_1, d.before a0 Z = true) (ws : List Jvm.Cond) (a1 : Addr) (h0 : Heap) (n0 : Nat) (Z0 : n0 ≤ h0.size) (G1 : Int32) (O2 : Sta Z Z.heap "java/lang/String" "COMPACT_STRINGS" "Z" (.int G1)) (P5 : ¬ (G1 = (0 : Int32))) (eA : Addr) (SE : Sta Z Z.heap "java/util/Optional" "EMPTY" "Ljava/util/Optional;" (.ref eA)) (XE : Exa Z Z.heap eA "java/util/Optional") (FE : Fld Z Z.heap eA "java/util/Optional" "value" "Ljava/lang/Object;" .null) (X00 : Old Z n0 h0) (p_Fld_a1_precision : Fld Z h0 a1 "com/example/operatory/operatory/fhir/SearchValue$Alternative" "precision" "Lcom/example/operatory/operatory/fhir/SearchValue$Precision;" .null) :
    MetFree l (⟨"com/example/operatory/operatory/fhir/SearchValue$Alternative", "precision", "()Ljava/util/Optional;"⟩ : MethodName) (head1 (Jvm.Cond.code (⟨"com/example/operatory/operatory/fhir/SearchValue$Alternative", "precision", "()Ljava/util/Optional;"⟩ : MethodName) prog_5_method_12_code 1 (Option.some (Jvm.ClassFile.FieldType.object "java/util/Optional")) :: ws) ({ frames := 1, cells := 0, slots := 0, locals := 12 } : Room)) (fun a U => a = #[(.ref a1)] ∧ Z.Warmed39 U.vm ∧ U.heap = h0) (fun _ _ _ _ _ => True) (fun _ U o U' => ∃ v L, o = .returned v ∧ QrmGn_precision Z a1 eA h0 n0 v U'.heap L ∧ FrameEnd U o U' L ({ frames := 1, cells := 0, slots := 0, locals := 12 } : Room).cells ({ frames := 1, cells := 0, slots := 0, locals := 12 } : Room).slots) := by
  refine MetFree.of_bodySF (plainFor_of_name pn_com_example_operatory_operatory_fhir_SearchValue_Alternative) hisR ?_
  intro p e s m args below meth c s₁ Bd hml0 hP hK
  obtain ⟨rfl, hZ, hh⟩ := hP
  have hx := Bd.exec
  have hby := Bd.bytes
  have hml : c.maxLocals = 1 := hml0
  have hown : s.vm.findClass "com/example/operatory/operatory/fhir/SearchValue$Alternative" = some m.cls := findClass_of_methodNamed Bd.named
  have hnm := (name_of_methodNamed Bd.named Bd.method).1
  have hlk : meth.locks = false := BodyLoose.notSynchronized Bd
  have X0 : Stand p l e ({ frames := 1, cells := 0, slots := 0, locals := 12 } : Room) s m #[(.ref a1)] below meth c s₁ [] 0 0 := Stand.of_body Bd
  have e0 : s₁.heap = h0 := by rw [← hh, Bd.state]; rfl
  have N0 := Fr.nil n0
  show Ends p.tables e below (fun o U' => ∃ v L, o = .returned v ∧ QrmGn_precision Z a1 eA h0 n0 v U'.heap L ∧ FrameEnd s o U' L ({ frames := 1, cells := 0, slots := 0, locals := 12 } : Room).cells ({ frames := 1, cells := 0, slots := 0, locals := 12 } : Room).slots) (s₁.setTop (entryFrame m #[(.ref a1)] 1))
  refine Ends.step (fun t k => castTop (ef_rmGn_precision m a1 ) k) ?_
  show Ends _ _ _ _ (s₁.setTop (mkF m 0 #[.val (.ref a1)] []))
  refine Ends.step (fun t k => XS.aloadN X0.here hx rfl (hb hby d_prog_5_method_12_code_0) rfl rfl k) ?_
  show Ends _ _ _ _ (s₁.setTop (mkF m 1 #[.val (.ref a1)] [(.ref a1)]))
  obtain ⟨T1, X1, e1, st1⟩ := getF X0 hx hZ hown (host := "") (Or.inl (hw _ (List.mem_of_getElem? (i := 52) rfl))) Via.refl e0 p_Fld_a1_precision (g := (mkF m 1 #[.val (.ref a1)] [(.ref a1)])) rfl rfl (hb hby d_prog_5_method_12_code_1)
  refine Ends.step st1 ?_
  show Ends _ _ _ _ (T1.setTop (mkF m 4 #[.val (.ref a1)] [.null]))
  obtain ⟨_, _, ⟨T2, L2, k2, n2⟩, -, X2, ⟨Lc2, hQ2, l2, y2, z2⟩, st2⟩ := Jvm.LawKit.callS X1 hx (y := (⟨"java/util/Optional", "ofNullable", "(Ljava/lang/Object;)Ljava/util/Optional;"⟩ : MethodName)) hown (mvT hZ (hw _ (List.mem_of_getElem? (i := 88) rfl))) (mvT hZ (hw _ (List.mem_of_getElem? (i := 89) rfl))) (mvT hZ (hw _ (List.mem_of_getElem? (i := 90) rfl))) (mvT hZ (hw _ (List.mem_of_getElem? (i := 91) rfl))) (by decide) (backOf (W := 0) (rmOpNn l Z a0 hw []  h0 n0 Z0 G1 O2 P5 eA SE XE FE X00 ) hZ (hw _ (List.mem_of_getElem? (i := 91) rfl)) (hw _ (List.mem_of_getElem? (i := 90) rfl)) (by decide) (by decide)) (g := (mkF m 4 #[.val (.ref a1)] [.null])) rfl (by rw [hml]; rfl) (argsL := [.null]) (rest := []) (lenOf pd_7 rfl) rfl (by show 2 * 0 + _ ≤ _; exact Nat.le_of_eq rfl) (hb hby d_prog_5_method_12_code_4) (fun _ _ => ⟨rfl, e1, (by decide : 0 + 0 ≤ _), (by decide : 0 + 0 ≤ _)⟩)
  dsimp only [Pt.U, Pt.locs, Pt.cells, Pt.slots] at X2 l2 y2 z2 st2 hQ2
  have X2 : Stand p l e ({ frames := 1, cells := 0, slots := 0, locals := 12 } : Room) s m _ below meth c T2 L2 0 0 := own_reX X2 y2 z2
  obtain ⟨rfl, Nq2, eh2⟩ := hQ2
  have N2 := own_frApp N0 Nq2 l2
  refine Ends.step st2 ?_
  show Ends _ _ _ _ (T2.setTop (mkF m 7 #[.val (.ref a1)] [(.ref eA)]))
  exact own_finR X2 hx hlk Bd.returns rfl rfl (hb hby d_prog_5_method_12_code_7) eh2 ⟨rfl, N2, rfl⟩ (by decide) (by decide)
def QrmGn_system (Z : State) (a1 : Addr) (eA : Addr) (h0 : Heap) (n0 : Nat) (v : Option Value) (h : Heap) (L : List Loc) : Prop := v = some (.ref eA) ∧ Fr n0 L ∧ h = h0
theorem ef_rmGn_system (m : MethodId) (a1 : Addr)  : entryFrame m #[(.ref a1)] 1 = mkF m 0 #[.val (.ref a1)] [] := by first | (simp [entryFrame, mkF, argsToLocals, maxLocals, Value.category]; done) | rfl
set_option maxRecDepth 65536 in
set_option maxHeartbeats 40000000 in
theorem rmGn_system (l : Launch) (Z : State) (a0 : Array Value) (hw : ∀ d ∈ tables_1, d.before a0 Z = true) (ws : List Jvm.Cond) (a1 : Addr) (h0 : Heap) (n0 : Nat) (Z0 : n0 ≤ h0.size) (G1 : Int32) (O2 : Sta Z Z.heap "java/lang/String" "COMPACT_STRINGS" "Z" (.int G1)) (P5 : ¬ (G1 = (0 : Int32))) (eA : Addr) (SE : Sta Z Z.heap "java/util/Optional" "EMPTY" "Ljava/util/Optional;" (.ref eA)) (XE : Exa Z Z.heap eA "java/util/Optional") (FE : Fld Z Z.heap eA "java/util/Optional" "value" "Ljava/lang/Object;" .null) (X00 : Old Z n0 h0) (p_Fld_a1_system : Fld Z h0 a1 "com/example/operatory/operatory/fhir/SearchValue$Alternative" "system" "Ljava/lang/String;" .null) :
    MetFree l (⟨"com/example/operatory/operatory/fhir/SearchValue$Alternative", "system", "()Ljava/util/Optional;"⟩ : MethodName) (head1 (Jvm.Cond.code (⟨"com/example/operatory/operatory/fhir/SearchValue$Alternative", "system", "()Ljava/util/Optional;"⟩ : MethodName) prog_5_method_13_code 1 (Option.some (Jvm.ClassFile.FieldType.object "java/util/Optional")) :: ws) ({ frames := 1, cells := 0, slots := 0, locals := 12 } : Room)) (fun a U => a = #[(.ref a1)] ∧ Z.Warmed39 U.vm ∧ U.heap = h0) (fun _ _ _ _ _ => True) (fun _ U o U' => ∃ v L, o = .returned v ∧ QrmGn_system Z a1 eA h0 n0 v U'.heap L ∧ FrameEnd U o U' L ({ frames := 1, cells := 0, slots := 0, locals := 12 } : Room).cells ({ frames := 1, cells := 0, slots := 0, locals := 12 } : Room).slots) := by
  refine MetFree.of_bodySF (plainFor_of_name pn_com_example_operatory_operatory_fhir_SearchValue_Alternative) hisR ?_
  intro p e s m args below meth c s₁ Bd hml0 hP hK
  obtain ⟨rfl, hZ, hh⟩ := hP
  have hx := Bd.exec
  have hby := Bd.bytes
  have hml : c.maxLocals = 1 := hml0
  have hown : s.vm.findClass "com/example/operatory/operatory/fhir/SearchValue$Alternative" = some m.cls := findClass_of_methodNamed Bd.named
  have hnm := (name_of_methodNamed Bd.named Bd.method).1
  have hlk : meth.locks = false := BodyLoose.notSynchronized Bd
  have X0 : Stand p l e ({ frames := 1, cells := 0, slots := 0, locals := 12 } : Room) s m #[(.ref a1)] below meth c s₁ [] 0 0 := Stand.of_body Bd
  have e0 : s₁.heap = h0 := by rw [← hh, Bd.state]; rfl
  have N0 := Fr.nil n0
  show Ends p.tables e below (fun o U' => ∃ v L, o = .returned v ∧ QrmGn_system Z a1 eA h0 n0 v U'.heap L ∧ FrameEnd s o U' L ({ frames := 1, cells := 0, slots := 0, locals := 12 } : Room).cells ({ frames := 1, cells := 0, slots := 0, locals := 12 } : Room).slots) (s₁.setTop (entryFrame m #[(.ref a1)] 1))
  refine Ends.step (fun t k => castTop (ef_rmGn_system m a1 ) k) ?_
  show Ends _ _ _ _ (s₁.setTop (mkF m 0 #[.val (.ref a1)] []))
  refine Ends.step (fun t k => XS.aloadN X0.here hx rfl (hb hby d_prog_5_method_13_code_0) rfl rfl k) ?_
  show Ends _ _ _ _ (s₁.setTop (mkF m 1 #[.val (.ref a1)] [(.ref a1)]))
  obtain ⟨T1, X1, e1, st1⟩ := getF X0 hx hZ hown (host := "") (Or.inl (hw _ (List.mem_of_getElem? (i := 54) rfl))) Via.refl e0 p_Fld_a1_system (g := (mkF m 1 #[.val (.ref a1)] [(.ref a1)])) rfl rfl (hb hby d_prog_5_method_13_code_1)
  refine Ends.step st1 ?_
  show Ends _ _ _ _ (T1.setTop (mkF m 4 #[.val (.ref a1)] [.null]))
  obtain ⟨_, _, ⟨T2, L2, k2, n2⟩, -, X2, ⟨Lc2, hQ2, l2, y2, z2⟩, st2⟩ := Jvm.LawKit.callS X1 hx (y := (⟨"java/util/Optional", "ofNullable", "(Ljava/lang/Object;)Ljava/util/Optional;"⟩ : MethodName)) hown (mvT hZ (hw _ (List.mem_of_getElem? (i := 88) rfl))) (mvT hZ (hw _ (List.mem_of_getElem? (i := 89) rfl))) (mvT hZ (hw _ (List.mem_of_getElem? (i := 90) rfl))) (mvT hZ (hw _ (List.mem_of_getElem? (i := 91) rfl))) (by decide) (backOf (W := 0) (rmOpNn l Z a0 hw []  h0 n0 Z0 G1 O2 P5 eA SE XE FE X00 ) hZ (hw _ (List.mem_of_getElem? (i := 91) rfl)) (hw _ (List.mem_of_getElem? (i := 90) rfl)) (by decide) (by decide)) (g := (mkF m 4 #[.val (.ref a1)] [.null])) rfl (by rw [hml]; rfl) (argsL := [.null]) (rest := []) (lenOf pd_7 rfl) rfl (by show 2 * 0 + _ ≤ _; exact Nat.le_of_eq rfl) (hb hby d_prog_5_method_13_code_4) (fun _ _ => ⟨rfl, e1, (by decide : 0 + 0 ≤ _), (by decide : 0 + 0 ≤ _)⟩)
  dsimp only [Pt.U, Pt.locs, Pt.cells, Pt.slots] at X2 l2 y2 z2 st2 hQ2
  have X2 : Stand p l e ({ frames := 1, cells := 0, slots := 0, locals := 12 } : Room) s m _ below meth c T2 L2 0 0 := own_reX X2 y2 z2
  obtain ⟨rfl, Nq2, eh2⟩ := hQ2
  have N2 := own_frApp N0 Nq2 l2
  refine Ends.step st2 ?_
  show Ends _ _ _ _ (T2.setTop (mkF m 7 #[.val (.ref a1)] [(.ref eA)]))
  exact own_finR X2 hx hlk Bd.returns rfl rfl (hb hby d_prog_5_method_13_code_7) eh2 ⟨rfl, N2, rfl⟩ (by decide) (by decide)
def QrmGn_code (Z : State) (a1 : Addr) (eA : Addr) (h0 : Heap) (n0 : Nat) (v : Option Value) (h : Heap) (L : List Loc) : Prop := v = some (.ref eA) ∧ Fr n0 L ∧ h = h0
theorem ef_rmGn_code (m : MethodId) (a1 : Addr)  : entryFrame m #[(.ref a1)] 1 = mkF m 0 #[.val (.ref a1)] [] := by first | (simp [entryFrame, mkF, argsToLocals, maxLocals, Value.category]; done) | rfl
set_option maxRecDepth 65536 in
set_option maxHeartbeats 40000000 in
theorem rmGn_code (l : Launch) (Z : State) (a0 : Array Value) (hw : ∀ d ∈ tables_1, d.before a0 Z = true) (ws : List Jvm.Cond) (a1 : Addr) (h0 : Heap) (n0 : Nat) (Z0 : n0 ≤ h0.size) (G1 : Int32) (O2 : Sta Z Z.heap "java/lang/String" "COMPACT_STRINGS" "Z" (.int G1)) (P5 : ¬ (G1 = (0 : Int32))) (eA : Addr) (SE : Sta Z Z.heap "java/util/Optional" "EMPTY" "Ljava/util/Optional;" (.ref eA)) (XE : Exa Z Z.heap eA "java/util/Optional") (FE : Fld Z Z.heap eA "java/util/Optional" "value" "Ljava/lang/Object;" .null) (X00 : Old Z n0 h0) (p_Fld_a1_code : Fld Z h0 a1 "com/example/operatory/operatory/fhir/SearchValue$Alternative" "code" "Ljava/lang/String;" .null) :
    MetFree l (⟨"com/example/operatory/operatory/fhir/SearchValue$Alternative", "code", "()Ljava/util/Optional;"⟩ : MethodName) (head1 (Jvm.Cond.code (⟨"com/example/operatory/operatory/fhir/SearchValue$Alternative", "code", "()Ljava/util/Optional;"⟩ : MethodName) prog_5_method_15_code 1 (Option.some (Jvm.ClassFile.FieldType.object "java/util/Optional")) :: ws) ({ frames := 1, cells := 0, slots := 0, locals := 12 } : Room)) (fun a U => a = #[(.ref a1)] ∧ Z.Warmed39 U.vm ∧ U.heap = h0) (fun _ _ _ _ _ => True) (fun _ U o U' => ∃ v L, o = .returned v ∧ QrmGn_code Z a1 eA h0 n0 v U'.heap L ∧ FrameEnd U o U' L ({ frames := 1, cells := 0, slots := 0, locals := 12 } : Room).cells ({ frames := 1, cells := 0, slots := 0, locals := 12 } : Room).slots) := by
  refine MetFree.of_bodySF (plainFor_of_name pn_com_example_operatory_operatory_fhir_SearchValue_Alternative) hisR ?_
  intro p e s m args below meth c s₁ Bd hml0 hP hK
  obtain ⟨rfl, hZ, hh⟩ := hP
  have hx := Bd.exec
  have hby := Bd.bytes
  have hml : c.maxLocals = 1 := hml0
  have hown : s.vm.findClass "com/example/operatory/operatory/fhir/SearchValue$Alternative" = some m.cls := findClass_of_methodNamed Bd.named
  have hnm := (name_of_methodNamed Bd.named Bd.method).1
  have hlk : meth.locks = false := BodyLoose.notSynchronized Bd
  have X0 : Stand p l e ({ frames := 1, cells := 0, slots := 0, locals := 12 } : Room) s m #[(.ref a1)] below meth c s₁ [] 0 0 := Stand.of_body Bd
  have e0 : s₁.heap = h0 := by rw [← hh, Bd.state]; rfl
  have N0 := Fr.nil n0
  show Ends p.tables e below (fun o U' => ∃ v L, o = .returned v ∧ QrmGn_code Z a1 eA h0 n0 v U'.heap L ∧ FrameEnd s o U' L ({ frames := 1, cells := 0, slots := 0, locals := 12 } : Room).cells ({ frames := 1, cells := 0, slots := 0, locals := 12 } : Room).slots) (s₁.setTop (entryFrame m #[(.ref a1)] 1))
  refine Ends.step (fun t k => castTop (ef_rmGn_code m a1 ) k) ?_
  show Ends _ _ _ _ (s₁.setTop (mkF m 0 #[.val (.ref a1)] []))
  refine Ends.step (fun t k => XS.aloadN X0.here hx rfl (hb hby d_prog_5_method_15_code_0) rfl rfl k) ?_
  show Ends _ _ _ _ (s₁.setTop (mkF m 1 #[.val (.ref a1)] [(.ref a1)]))
  obtain ⟨T1, X1, e1, st1⟩ := getF X0 hx hZ hown (host := "") (Or.inl (hw _ (List.mem_of_getElem? (i := 58) rfl))) Via.refl e0 p_Fld_a1_code (g := (mkF m 1 #[.val (.ref a1)] [(.ref a1)])) rfl rfl (hb hby d_prog_5_method_15_code_1)
  refine Ends.step st1 ?_
  show Ends _ _ _ _ (T1.setTop (mkF m 4 #[.val (.ref a1)] [.null]))
  obtain ⟨_, _, ⟨T2, L2, k2, n2⟩, -, X2, ⟨Lc2, hQ2, l2, y2, z2⟩, st2⟩ := Jvm.LawKit.callS X1 hx (y := (⟨"java/util/Optional", "ofNullable", "(Ljava/lang/Object;)Ljava/util/Optional;"⟩ : MethodName)) hown (mvT hZ (hw _ (List.mem_of_getElem? (i := 88) rfl))) (mvT hZ (hw _ (List.mem_of_getElem? (i := 89) rfl))) (mvT hZ (hw _ (List.mem_of_getElem? (i := 90) rfl))) (mvT hZ (hw _ (List.mem_of_getElem? (i := 91) rfl))) (by decide) (backOf (W := 0) (rmOpNn l Z a0 hw []  h0 n0 Z0 G1 O2 P5 eA SE XE FE X00 ) hZ (hw _ (List.mem_of_getElem? (i := 91) rfl)) (hw _ (List.mem_of_getElem? (i := 90) rfl)) (by decide) (by decide)) (g := (mkF m 4 #[.val (.ref a1)] [.null])) rfl (by rw [hml]; rfl) (argsL := [.null]) (rest := []) (lenOf pd_7 rfl) rfl (by show 2 * 0 + _ ≤ _; exact Nat.le_of_eq rfl) (hb hby d_prog_5_method_15_code_4) (fun _ _ => ⟨rfl, e1, (by decide : 0 + 0 ≤ _), (by decide : 0 + 0 ≤ _)⟩)
  dsimp only [Pt.U, Pt.locs, Pt.cells, Pt.slots] at X2 l2 y2 z2 st2 hQ2
  have X2 : Stand p l e ({ frames := 1, cells := 0, slots := 0, locals := 12 } : Room) s m _ below meth c T2 L2 0 0 := own_reX X2 y2 z2
  obtain ⟨rfl, Nq2, eh2⟩ := hQ2
  have N2 := own_frApp N0 Nq2 l2
  refine Ends.step st2 ?_
  show Ends _ _ _ _ (T2.setTop (mkF m 7 #[.val (.ref a1)] [(.ref eA)]))
  exact own_finR X2 hx hlk Bd.returns rfl rfl (hb hby d_prog_5_method_15_code_7) eh2 ⟨rfl, N2, rfl⟩ (by decide) (by decide)
def QrmGn_value (Z : State) (a1 : Addr) (eA : Addr) (h0 : Heap) (n0 : Nat) (v : Option Value) (h : Heap) (L : List Loc) : Prop := v = some (.ref eA) ∧ Fr n0 L ∧ h = h0
theorem ef_rmGn_value (m : MethodId) (a1 : Addr)  : entryFrame m #[(.ref a1)] 1 = mkF m 0 #[.val (.ref a1)] [] := by first | (simp [entryFrame, mkF, argsToLocals, maxLocals, Value.category]; done) | rfl
set_option maxRecDepth 65536 in
set_option maxHeartbeats 40000000 in
theorem rmGn_value (l : Launch) (Z : State) (a0 : Array Value) (hw : ∀ d ∈ tables_1, d.before a0 Z = true) (ws : List Jvm.Cond) (a1 : Addr) (h0 : Heap) (n0 : Nat) (Z0 : n0 ≤ h0.size) (G1 : Int32) (O2 : Sta Z Z.heap "java/lang/String" "COMPACT_STRINGS" "Z" (.int G1)) (P5 : ¬ (G1 = (0 : Int32))) (eA : Addr) (SE : Sta Z Z.heap "java/util/Optional" "EMPTY" "Ljava/util/Optional;" (.ref eA)) (XE : Exa Z Z.heap eA "java/util/Optional") (FE : Fld Z Z.heap eA "java/util/Optional" "value" "Ljava/lang/Object;" .null) (X00 : Old Z n0 h0) (p_Fld_a1_value : Fld Z h0 a1 "com/example/operatory/operatory/fhir/SearchValue$Alternative" "value" "Ljava/lang/String;" .null) :
    MetFree l (⟨"com/example/operatory/operatory/fhir/SearchValue$Alternative", "value", "()Ljava/util/Optional;"⟩ : MethodName) (head1 (Jvm.Cond.code (⟨"com/example/operatory/operatory/fhir/SearchValue$Alternative", "value", "()Ljava/util/Optional;"⟩ : MethodName) prog_5_method_16_code 1 (Option.some (Jvm.ClassFile.FieldType.object "java/util/Optional")) :: ws) ({ frames := 1, cells := 0, slots := 0, locals := 12 } : Room)) (fun a U => a = #[(.ref a1)] ∧ Z.Warmed39 U.vm ∧ U.heap = h0) (fun _ _ _ _ _ => True) (fun _ U o U' => ∃ v L, o = .returned v ∧ QrmGn_value Z a1 eA h0 n0 v U'.heap L ∧ FrameEnd U o U' L ({ frames := 1, cells := 0, slots := 0, locals := 12 } : Room).cells ({ frames := 1, cells := 0, slots := 0, locals := 12 } : Room).slots) := by
  refine MetFree.of_bodySF (plainFor_of_name pn_com_example_operatory_operatory_fhir_SearchValue_Alternative) hisR ?_
  intro p e s m args below meth c s₁ Bd hml0 hP hK
  obtain ⟨rfl, hZ, hh⟩ := hP
  have hx := Bd.exec
  have hby := Bd.bytes
  have hml : c.maxLocals = 1 := hml0
  have hown : s.vm.findClass "com/example/operatory/operatory/fhir/SearchValue$Alternative" = some m.cls := findClass_of_methodNamed Bd.named
  have hnm := (name_of_methodNamed Bd.named Bd.method).1
  have hlk : meth.locks = false := BodyLoose.notSynchronized Bd
  have X0 : Stand p l e ({ frames := 1, cells := 0, slots := 0, locals := 12 } : Room) s m #[(.ref a1)] below meth c s₁ [] 0 0 := Stand.of_body Bd
  have e0 : s₁.heap = h0 := by rw [← hh, Bd.state]; rfl
  have N0 := Fr.nil n0
  show Ends p.tables e below (fun o U' => ∃ v L, o = .returned v ∧ QrmGn_value Z a1 eA h0 n0 v U'.heap L ∧ FrameEnd s o U' L ({ frames := 1, cells := 0, slots := 0, locals := 12 } : Room).cells ({ frames := 1, cells := 0, slots := 0, locals := 12 } : Room).slots) (s₁.setTop (entryFrame m #[(.ref a1)] 1))
  refine Ends.step (fun t k => castTop (ef_rmGn_value m a1 ) k) ?_
  show Ends _ _ _ _ (s₁.setTop (mkF m 0 #[.val (.ref a1)] []))
  refine Ends.step (fun t k => XS.aloadN X0.here hx rfl (hb hby d_prog_5_method_16_code_0) rfl rfl k) ?_
  show Ends _ _ _ _ (s₁.setTop (mkF m 1 #[.val (.ref a1)] [(.ref a1)]))
  obtain ⟨T1, X1, e1, st1⟩ := getF X0 hx hZ hown (host := "") (Or.inl (hw _ (List.mem_of_getElem? (i := 60) rfl))) Via.refl e0 p_Fld_a1_value (g := (mkF m 1 #[.val (.ref a1)] [(.ref a1)])) rfl rfl (hb hby d_prog_5_method_16_code_1)
  refine Ends.step st1 ?_
  show Ends _ _ _ _ (T1.setTop (mkF m 4 #[.val (.ref a1)] [.null]))
  obtain ⟨_, _, ⟨T2, L2, k2, n2⟩, -, X2, ⟨Lc2, hQ2, l2, y2, z2⟩, st2⟩ := Jvm.LawKit.callS X1 hx (y := (⟨"java/util/Optional", "ofNullable", "(Ljava/lang/Object;)Ljava/util/Optional;"⟩ : MethodName)) hown (mvT hZ (hw _ (List.mem_of_getElem? (i := 88) rfl))) (mvT hZ (hw _ (List.mem_of_getElem? (i := 89) rfl))) (mvT hZ (hw _ (List.mem_of_getElem? (i := 90) rfl))) (mvT hZ (hw _ (List.mem_of_getElem? (i := 91) rfl))) (by decide) (backOf (W := 0) (rmOpNn l Z a0 hw []  h0 n0 Z0 G1 O2 P5 eA SE XE FE X00 ) hZ (hw _ (List.mem_of_getElem? (i := 91) rfl)) (hw _ (List.mem_of_getElem? (i := 90) rfl)) (by decide) (by decide)) (g := (mkF m 4 #[.val (.ref a1)] [.null])) rfl (by rw [hml]; rfl) (argsL := [.null]) (rest := []) (lenOf pd_7 rfl) rfl (by show 2 * 0 + _ ≤ _; exact Nat.le_of_eq rfl) (hb hby d_prog_5_method_16_code_4) (fun _ _ => ⟨rfl, e1, (by decide : 0 + 0 ≤ _), (by decide : 0 + 0 ≤ _)⟩)
  dsimp only [Pt.U, Pt.locs, Pt.cells, Pt.slots] at X2 l2 y2 z2 st2 hQ2
  have X2 : Stand p l e ({ frames := 1, cells := 0, slots := 0, locals := 12 } : Room) s m _ below meth c T2 L2 0 0 := own_reX X2 y2 z2
  obtain ⟨rfl, Nq2, eh2⟩ := hQ2
  have N2 := own_frApp N0 Nq2 l2
  refine Ends.step st2 ?_
  show Ends _ _ _ _ (T2.setTop (mkF m 7 #[.val (.ref a1)] [(.ref eA)]))
  exact own_finR X2 hx hlk Bd.returns rfl rfl (hb hby d_prog_5_method_16_code_7) eh2 ⟨rfl, N2, rfl⟩ (by decide) (by decide)
def QrmGn_missing (Z : State) (a1 : Addr) (eA : Addr) (h0 : Heap) (n0 : Nat) (v : Option Value) (h : Heap) (L : List Loc) : Prop := v = some (.ref eA) ∧ Fr n0 L ∧ h = h0
theorem ef_rmGn_missing (m : MethodId) (a1 : Addr)  : entryFrame m #[(.ref a1)] 1 = mkF m 0 #[.val (.ref a1)] [] := by first | (simp [entryFrame, mkF, argsToLocals, maxLocals, Value.category]; done) | rfl
set_option maxRecDepth 65536 in
set_option maxHeartbeats 40000000 in
theorem rmGn_missing (l : Launch) (Z : State) (a0 : Array Value) (hw : ∀ d ∈ tables_1, d.before a0 Z = true) (ws : List Jvm.Cond) (a1 : Addr) (h0 : Heap) (n0 : Nat) (Z0 : n0 ≤ h0.size) (G1 : Int32) (O2 : Sta Z Z.heap "java/lang/String" "COMPACT_STRINGS" "Z" (.int G1)) (P5 : ¬ (G1 = (0 : Int32))) (eA : Addr) (SE : Sta Z Z.heap "java/util/Optional" "EMPTY" "Ljava/util/Optional;" (.ref eA)) (XE : Exa Z Z.heap eA "java/util/Optional") (FE : Fld Z Z.heap eA "java/util/Optional" "value" "Ljava/lang/Object;" .null) (X00 : Old Z n0 h0) (p_Fld_a1_missing : Fld Z h0 a1 "com/example/operatory/operatory/fhir/SearchValue$Alternative" "missing" "Ljava/lang/Boolean;" .null) :
    MetFree l (⟨"com/example/operatory/operatory/fhir/SearchValue$Alternative", "missing", "()Ljava/util/Optional;"⟩ : MethodName) (head1 (Jvm.Cond.code (⟨"com/example/operatory/operatory/fhir/SearchValue$Alternative", "missing", "()Ljava/util/Optional;"⟩ : MethodName) prog_5_method_20_code 1 (Option.some (Jvm.ClassFile.FieldType.object "java/util/Optional")) :: ws) ({ frames := 1, cells := 0, slots := 0, locals := 12 } : Room)) (fun a U => a = #[(.ref a1)] ∧ Z.Warmed39 U.vm ∧ U.heap = h0) (fun _ _ _ _ _ => True) (fun _ U o U' => ∃ v L, o = .returned v ∧ QrmGn_missing Z a1 eA h0 n0 v U'.heap L ∧ FrameEnd U o U' L ({ frames := 1, cells := 0, slots := 0, locals := 12 } : Room).cells ({ frames := 1, cells := 0, slots := 0, locals := 12 } : Room).slots) := by
  refine MetFree.of_bodySF (plainFor_of_name pn_com_example_operatory_operatory_fhir_SearchValue_Alternative) hisR ?_
  intro p e s m args below meth c s₁ Bd hml0 hP hK
  obtain ⟨rfl, hZ, hh⟩ := hP
  have hx := Bd.exec
  have hby := Bd.bytes
  have hml : c.maxLocals = 1 := hml0
  have hown : s.vm.findClass "com/example/operatory/operatory/fhir/SearchValue$Alternative" = some m.cls := findClass_of_methodNamed Bd.named
  have hnm := (name_of_methodNamed Bd.named Bd.method).1
  have hlk : meth.locks = false := BodyLoose.notSynchronized Bd
  have X0 : Stand p l e ({ frames := 1, cells := 0, slots := 0, locals := 12 } : Room) s m #[(.ref a1)] below meth c s₁ [] 0 0 := Stand.of_body Bd
  have e0 : s₁.heap = h0 := by rw [← hh, Bd.state]; rfl
  have N0 := Fr.nil n0
  show Ends p.tables e below (fun o U' => ∃ v L, o = .returned v ∧ QrmGn_missing Z a1 eA h0 n0 v U'.heap L ∧ FrameEnd s o U' L ({ frames := 1, cells := 0, slots := 0, locals := 12 } : Room).cells ({ frames := 1, cells := 0, slots := 0, locals := 12 } : Room).slots) (s₁.setTop (entryFrame m #[(.ref a1)] 1))
  refine Ends.step (fun t k => castTop (ef_rmGn_missing m a1 ) k) ?_
  show Ends _ _ _ _ (s₁.setTop (mkF m 0 #[.val (.ref a1)] []))
  refine Ends.step (fun t k => XS.aloadN X0.here hx rfl (hb hby d_prog_5_method_20_code_0) rfl rfl k) ?_
  show Ends _ _ _ _ (s₁.setTop (mkF m 1 #[.val (.ref a1)] [(.ref a1)]))
  obtain ⟨T1, X1, e1, st1⟩ := getF X0 hx hZ hown (host := "") (Or.inl (hw _ (List.mem_of_getElem? (i := 68) rfl))) Via.refl e0 p_Fld_a1_missing (g := (mkF m 1 #[.val (.ref a1)] [(.ref a1)])) rfl rfl (hb hby d_prog_5_method_20_code_1)
  refine Ends.step st1 ?_
  show Ends _ _ _ _ (T1.setTop (mkF m 4 #[.val (.ref a1)] [.null]))
  obtain ⟨_, _, ⟨T2, L2, k2, n2⟩, -, X2, ⟨Lc2, hQ2, l2, y2, z2⟩, st2⟩ := Jvm.LawKit.callS X1 hx (y := (⟨"java/util/Optional", "ofNullable", "(Ljava/lang/Object;)Ljava/util/Optional;"⟩ : MethodName)) hown (mvT hZ (hw _ (List.mem_of_getElem? (i := 88) rfl))) (mvT hZ (hw _ (List.mem_of_getElem? (i := 89) rfl))) (mvT hZ (hw _ (List.mem_of_getElem? (i := 90) rfl))) (mvT hZ (hw _ (List.mem_of_getElem? (i := 91) rfl))) (by decide) (backOf (W := 0) (rmOpNn l Z a0 hw []  h0 n0 Z0 G1 O2 P5 eA SE XE FE X00 ) hZ (hw _ (List.mem_of_getElem? (i := 91) rfl)) (hw _ (List.mem_of_getElem? (i := 90) rfl)) (by decide) (by decide)) (g := (mkF m 4 #[.val (.ref a1)] [.null])) rfl (by rw [hml]; rfl) (argsL := [.null]) (rest := []) (lenOf pd_7 rfl) rfl (by show 2 * 0 + _ ≤ _; exact Nat.le_of_eq rfl) (hb hby d_prog_5_method_20_code_4) (fun _ _ => ⟨rfl, e1, (by decide : 0 + 0 ≤ _), (by decide : 0 + 0 ≤ _)⟩)
  dsimp only [Pt.U, Pt.locs, Pt.cells, Pt.slots] at X2 l2 y2 z2 st2 hQ2
  have X2 : Stand p l e ({ frames := 1, cells := 0, slots := 0, locals := 12 } : Room) s m _ below meth c T2 L2 0 0 := own_reX X2 y2 z2
  obtain ⟨rfl, Nq2, eh2⟩ := hQ2
  have N2 := own_frApp N0 Nq2 l2
  refine Ends.step st2 ?_
  show Ends _ _ _ _ (T2.setTop (mkF m 7 #[.val (.ref a1)] [(.ref eA)]))
  exact own_finR X2 hx hlk Bd.returns rfl rfl (hb hby d_prog_5_method_20_code_7) eh2 ⟨rfl, N2, rfl⟩ (by decide) (by decide)
def QrmNs (Z : State) (a1 : Addr) (h0 : Heap) (n0 : Nat) (v : Option Value) (h : Heap) (L : List Loc) : Prop := v = some (.int (0 : Int32)) ∧ Fr n0 L ∧ h = h0
theorem ef_rmNs (m : MethodId) (a1 : Addr)  : entryFrame m #[(.ref a1)] 1 = mkF m 0 #[.val (.ref a1)] [] := by first | (simp [entryFrame, mkF, argsToLocals, maxLocals, Value.category]; done) | rfl
set_option maxRecDepth 65536 in
set_option maxHeartbeats 40000000 in
theorem rmNs (l : Launch) (Z : State) (a0 : Array Value) (hw : ∀ d ∈ tables_1, d.before a0 Z = true) (ws : List Jvm.Cond) (a1 : Addr) (h0 : Heap) (n0 : Nat) (Z0 : n0 ≤ h0.size) (G1 : Int32) (O2 : Sta Z Z.heap "java/lang/String" "COMPACT_STRINGS" "Z" (.int G1)) (P5 : ¬ (G1 = (0 : Int32))) (eA : Addr) (SE : Sta Z Z.heap "java/util/Optional" "EMPTY" "Ljava/util/Optional;" (.ref eA)) (XE : Exa Z Z.heap eA "java/util/Optional") (FE : Fld Z Z.heap eA "java/util/Optional" "value" "Ljava/lang/Object;" .null) (X00 : Old Z n0 h0) (p_Fld_a1_noSystem : Fld Z h0 a1 "com/example/operatory/operatory/fhir/SearchValue$Alternative" "noSystem" "Z" (.int (0 : Int32))) :
    MetFree l (⟨"com/example/operatory/operatory/fhir/SearchValue$Alternative", "noSystem", "()Z"⟩ : MethodName) (head1 (Jvm.Cond.code (⟨"com/example/operatory/operatory/fhir/SearchValue$Alternative", "noSystem", "()Z"⟩ : MethodName) prog_5_method_14_code 1 (Option.some Jvm.ClassFile.FieldType.boolean) :: ws) ({ frames := 0, cells := 0, slots := 0, locals := 0 } : Room)) (fun a U => a = #[(.ref a1)] ∧ Z.Warmed39 U.vm ∧ U.heap = h0) (fun _ _ _ _ _ => True) (fun _ U o U' => ∃ v L, o = .returned v ∧ QrmNs Z a1 h0 n0 v U'.heap L ∧ FrameEnd U o U' L ({ frames := 0, cells := 0, slots := 0, locals := 0 } : Room).cells ({ frames := 0, cells := 0, slots := 0, locals := 0 } : Room).slots) := by
  refine MetFree.of_bodySF (plainFor_of_name pn_com_example_operatory_operatory_fhir_SearchValue_Alternative) hisR ?_
  intro p e s m args below meth c s₁ Bd hml0 hP hK
  obtain ⟨rfl, hZ, hh⟩ := hP
  have hx := Bd.exec
  have hby := Bd.bytes
  have hml : c.maxLocals = 1 := hml0
  have hown : s.vm.findClass "com/example/operatory/operatory/fhir/SearchValue$Alternative" = some m.cls := findClass_of_methodNamed Bd.named
  have hnm := (name_of_methodNamed Bd.named Bd.method).1
  have hlk : meth.locks = false := BodyLoose.notSynchronized Bd
  have X0 : Stand p l e ({ frames := 0, cells := 0, slots := 0, locals := 0 } : Room) s m #[(.ref a1)] below meth c s₁ [] 0 0 := Stand.of_body Bd
  have e0 : s₁.heap = h0 := by rw [← hh, Bd.state]; rfl
  have N0 := Fr.nil n0
  show Ends p.tables e below (fun o U' => ∃ v L, o = .returned v ∧ QrmNs Z a1 h0 n0 v U'.heap L ∧ FrameEnd s o U' L ({ frames := 0, cells := 0, slots := 0, locals := 0 } : Room).cells ({ frames := 0, cells := 0, slots := 0, locals := 0 } : Room).slots) (s₁.setTop (entryFrame m #[(.ref a1)] 1))
  refine Ends.step (fun t k => castTop (ef_rmNs m a1 ) k) ?_
  show Ends _ _ _ _ (s₁.setTop (mkF m 0 #[.val (.ref a1)] []))
  refine Ends.step (fun t k => XS.aloadN X0.here hx rfl (hb hby d_prog_5_method_14_code_0) rfl rfl k) ?_
  show Ends _ _ _ _ (s₁.setTop (mkF m 1 #[.val (.ref a1)] [(.ref a1)]))
  obtain ⟨T1, X1, e1, st1⟩ := getF X0 hx hZ hown (host := "") (Or.inl (hw _ (List.mem_of_getElem? (i := 56) rfl))) Via.refl e0 p_Fld_a1_noSystem (g := (mkF m 1 #[.val (.ref a1)] [(.ref a1)])) rfl rfl (hb hby d_prog_5_method_14_code_1)
  refine Ends.step st1 ?_
  show Ends _ _ _ _ (T1.setTop (mkF m 4 #[.val (.ref a1)] [(.int (0 : Int32))]))
  exact own_finI X1 hx hlk (t := .boolean) Bd.returns (by simp) rfl (hb hby d_prog_5_method_14_code_4) e1 ⟨rfl, N0, rfl⟩ (by decide) (by decide)
def QrmSame (Z : State) (v1 : Value) (h0 : Heap) (n0 : Nat) (v : Option Value) (h : Heap) (L : List Loc) : Prop := v = some (.int (1 : Int32)) ∧ Fr n0 L ∧ h = h0
theorem ef_rmSame (m : MethodId) (v1 : Value) (r_v1 : Value.isRef v1 = true) (r_v1 : Value.isRef v1 = true) : entryFrame m #[v1, v1] 2 = mkF m 0 #[.val v1, .val v1] [] := by first | (simp [entryFrame, mkF, argsToLocals, maxLocals, own_cR, own_cI, own_cN, own_cJ, XT.cat1 r_v1, XT.cat1 r_v1]; done) | rfl
set_option maxRecDepth 65536 in
set_option maxHeartbeats 40000000 in
theorem rmSame (l : Launch) (Z : State) (a0 : Array Value) (hw : ∀ d ∈ tables_1, d.before a0 Z = true) (ws : List Jvm.Cond) (v1 : Value) (h0 : Heap) (n0 : Nat) (Z0 : n0 ≤ h0.size) (G1 : Int32) (O2 : Sta Z Z.heap "java/lang/String" "COMPACT_STRINGS" "Z" (.int G1)) (P5 : ¬ (G1 = (0 : Int32))) (eA : Addr) (SE : Sta Z Z.heap "java/util/Optional" "EMPTY" "Ljava/util/Optional;" (.ref eA)) (XE : Exa Z Z.heap eA "java/util/Optional") (FE : Fld Z Z.heap eA "java/util/Optional" "value" "Ljava/lang/Object;" .null) (X00 : Old Z n0 h0) (r_v1 : Value.isRef v1 = true) (p_Nul_v1 : Nul Z h0 v1 "java/lang/String") :
    MetFree l (⟨"com/example/operatory/operatory/fhir/AlternativeOfReferencePinLaw", "same", "(Ljava/lang/String;Ljava/lang/String;)Z"⟩ : MethodName) (head1 (Jvm.Cond.code (⟨"com/example/operatory/operatory/fhir/AlternativeOfReferencePinLaw", "same", "(Ljava/lang/String;Ljava/lang/String;)Z"⟩ : MethodName) method_3_code 2 (Option.some Jvm.ClassFile.FieldType.boolean) :: ws) ({ frames := 1, cells := 0, slots := 0, locals := 14 } : Room)) (fun a U => a = #[v1, v1] ∧ Z.Warmed39 U.vm ∧ U.heap = h0) (fun _ _ _ _ _ => True) (fun _ U o U' => ∃ v L, o = .returned v ∧ QrmSame Z v1 h0 n0 v U'.heap L ∧ FrameEnd U o U' L ({ frames := 1, cells := 0, slots := 0, locals := 14 } : Room).cells ({ frames := 1, cells := 0, slots := 0, locals := 14 } : Room).slots) := by
  refine MetFree.of_bodySF (plainFor_of_name pn_com_example_operatory_operatory_fhir_AlternativeOfReferencePinLaw) hisR ?_
  intro p e s m args below meth c s₁ Bd hml0 hP hK
  obtain ⟨rfl, hZ, hh⟩ := hP
  have hx := Bd.exec
  have hby := Bd.bytes
  have hml : c.maxLocals = 2 := hml0
  have hown : s.vm.findClass "com/example/operatory/operatory/fhir/AlternativeOfReferencePinLaw" = some m.cls := findClass_of_methodNamed Bd.named
  have hnm := (name_of_methodNamed Bd.named Bd.method).1
  have hlk : meth.locks = false := BodyLoose.notSynchronized Bd
  have X0 : Stand p l e ({ frames := 1, cells := 0, slots := 0, locals := 14 } : Room) s m #[v1, v1] below meth c s₁ [] 0 0 := Stand.of_body Bd
  have e0 : s₁.heap = h0 := by rw [← hh, Bd.state]; rfl
  have N0 := Fr.nil n0
  show Ends p.tables e below (fun o U' => ∃ v L, o = .returned v ∧ QrmSame Z v1 h0 n0 v U'.heap L ∧ FrameEnd s o U' L ({ frames := 1, cells := 0, slots := 0, locals := 14 } : Room).cells ({ frames := 1, cells := 0, slots := 0, locals := 14 } : Room).slots) (s₁.setTop (entryFrame m #[v1, v1] 2))
  refine Ends.step (fun t k => castTop (ef_rmSame m v1 r_v1 r_v1) k) ?_
  show Ends _ _ _ _ (s₁.setTop (mkF m 0 #[.val v1, .val v1] []))
  refine Ends.step (fun t k => XS.aloadN X0.here hx rfl (hb hby d_method_3_code_0) rfl r_v1 k) ?_
  show Ends _ _ _ _ (s₁.setTop (mkF m 1 #[.val v1, .val v1] [v1]))
  rcases p_Nul_v1 with rfl | ⟨ac1, rfl, Ec1⟩
  · refine Ends.step (fun t k => XS.ifnonnullNo X0.here hx rfl (hb hby d_method_3_code_1) rfl k) ?_
    show Ends _ _ _ _ (s₁.setTop (mkF m 4 #[.val .null, .val .null] []))
    refine Ends.step (fun t k => XS.aloadN X0.here hx rfl (hb hby d_method_3_code_4) rfl rfl k) ?_
    show Ends _ _ _ _ (s₁.setTop (mkF m 5 #[.val .null, .val .null] [.null]))
    refine Ends.step (fun t k => XS.ifnonnullNo X0.here hx rfl (hb hby d_method_3_code_5) rfl k) ?_
    show Ends _ _ _ _ (s₁.setTop (mkF m 8 #[.val .null, .val .null] []))
    refine Ends.step (fun t k => XS.iconst X0.here hx rfl (hb hby d_method_3_code_8) k) ?_
    show Ends _ _ _ _ (s₁.setTop (mkF m 9 #[.val .null, .val .null] [(.int (1 : Int32))]))
    refine Ends.step (fun t k => XS.goto X0.here hx rfl (pc0 := 9) (pc' := 13) rfl (hb hby d_method_3_code_9) (by decide) (by decide) k) ?_
    show Ends _ _ _ _ (s₁.setTop (mkF m 13 #[.val .null, .val .null] [(.int (1 : Int32))]))
    exact own_finI X0 hx hlk (t := .boolean) Bd.returns (by simp) rfl (hb hby d_method_3_code_13) e0 ⟨rfl, N0, rfl⟩ (by decide) (by decide)
  · refine Ends.step (fun t k => XS.ifnonnullYes X0.here hx rfl (pc0 := 1) (pc' := 14) rfl (hb hby d_method_3_code_1) rfl (by decide) (by decide) k) ?_
    show Ends _ _ _ _ (s₁.setTop (mkF m 14 #[.val (.ref ac1), .val (.ref ac1)] []))
    refine Ends.step (fun t k => XS.aloadN X0.here hx rfl (hb hby d_method_3_code_14) rfl rfl k) ?_
    show Ends _ _ _ _ (s₁.setTop (mkF m 15 #[.val (.ref ac1), .val (.ref ac1)] [(.ref ac1)]))
    refine Ends.step (fun t k => XS.ifnullNo X0.here hx rfl (hb hby d_method_3_code_15) rfl k) ?_
    show Ends _ _ _ _ (s₁.setTop (mkF m 18 #[.val (.ref ac1), .val (.ref ac1)] []))
    refine Ends.step (fun t k => XS.aloadN X0.here hx rfl (hb hby d_method_3_code_18) rfl rfl k) ?_
    show Ends _ _ _ _ (s₁.setTop (mkF m 19 #[.val (.ref ac1), .val (.ref ac1)] [(.ref ac1)]))
    refine Ends.step (fun t k => XS.aloadN X0.here hx rfl (hb hby d_method_3_code_19) rfl rfl k) ?_
    show Ends _ _ _ _ (s₁.setTop (mkF m 20 #[.val (.ref ac1), .val (.ref ac1)] [(.ref ac1), (.ref ac1)]))
    obtain ⟨cq2, kq2, q2a, q2b, q2c⟩ := isOf hZ e0 Ec1
    obtain ⟨_, _, ⟨T2, L2, k2, n2⟩, -, X2, ⟨Lc2, hQ2, l2, y2, z2⟩, st2⟩ := X0.virtualBack hx (y := (⟨"java/lang/String", "equals", "(Ljava/lang/Object;)Z"⟩ : MethodName)) (z := (⟨"java/lang/String", "equals", "(Ljava/lang/Object;)Z"⟩ : MethodName)) hown (mvT hZ (hw _ (List.mem_of_getElem? (i := 78) rfl))) (mvT hZ (hw _ (List.mem_of_getElem? (i := 79) rfl))) (notFace_of_selects (args := #[]) (mvT hZ (hw _ (List.mem_of_getElem? (i := 81) rfl)))) (mvT hZ (hw _ (List.mem_of_getElem? (i := 81) rfl))) (mvT hZ (hw _ (List.mem_of_getElem? (i := 80) rfl))) (by decide) (backOf (W := 0) (rmEqS l Z a0 hw [] ac1 h0 n0 Z0 G1 O2 P5 eA SE XE FE X00 ) hZ (hw _ (List.mem_of_getElem? (i := 82) rfl)) (hw _ (List.mem_of_getElem? (i := 7) rfl)) (by decide) (by decide)) q2a q2c (g := (mkF m 20 #[.val (.ref ac1), .val (.ref ac1)] [(.ref ac1), (.ref ac1)])) rfl (by rw [hml]; rfl) (Steps.refl _) (argsL := [(.ref ac1)]) (rest := []) (lenOf pd_8 rfl) rfl (by show 2 * 0 + _ ≤ _; exact Nat.le_of_eq rfl) (hb hby d_method_3_code_20) (fun _ _ => ⟨rfl, e0, (by decide : 0 + 0 ≤ _), (by decide : 0 + 0 ≤ _)⟩)
    dsimp only [Pt.U, Pt.locs, Pt.cells, Pt.slots] at X2 l2 y2 z2 st2 hQ2
    have X2 : Stand p l e ({ frames := 1, cells := 0, slots := 0, locals := 14 } : Room) s m _ below meth c T2 L2 0 0 := own_reX X2 y2 z2
    obtain ⟨rfl, Nq2, eh2⟩ := hQ2
    have N2 := own_frApp N0 Nq2 l2
    refine Ends.go st2 ?_
    show Ends _ _ _ _ (T2.setTop (mkF m 23 #[.val (.ref ac1), .val (.ref ac1)] [(.int (1 : Int32))]))
    refine Ends.step (fun t k => XS.ifNo X2.here hx rfl (hb hby d_method_3_code_23) rfl ((if0 _ _).trans (feq (by decide : ¬ ((1 : Int32) = (0 : Int32)))).1) k) ?_
    show Ends _ _ _ _ (T2.setTop (mkF m 26 #[.val (.ref ac1), .val (.ref ac1)] []))
    refine Ends.step (fun t k => XS.iconst X2.here hx rfl (hb hby d_method_3_code_26) k) ?_
    show Ends _ _ _ _ (T2.setTop (mkF m 27 #[.val (.ref ac1), .val (.ref ac1)] [(.int (1 : Int32))]))
    refine Ends.step (fun t k => XS.goto X2.here hx rfl (pc0 := 27) (pc' := 31) rfl (hb hby d_method_3_code_27) (by decide) (by decide) k) ?_
    show Ends _ _ _ _ (T2.setTop (mkF m 31 #[.val (.ref ac1), .val (.ref ac1)] [(.int (1 : Int32))]))
    exact own_finI X2 hx hlk (t := .boolean) Bd.returns (by simp) rfl (hb hby d_method_3_code_31) eh2 ⟨rfl, N2, rfl⟩ (by decide) (by decide)
def Qrm0 (Z : State) (p1 : Int32) (p2 : Int32) (p3 : Int32) (p4 : Int32) (p5 : Int32) (h0 : Heap) (n0 : Nat) (v : Option Value) (h : Heap) (L : List Loc) : Prop := v = some (.int (1 : Int32)) ∧ Fr n0 L ∧ Keep h0 h []
theorem ef_rm0 (m : MethodId) (p1 : Int32) (p2 : Int32) (p3 : Int32) (p4 : Int32) (p5 : Int32)  : entryFrame m #[(.int p1), (.int p2), (.int p3), (.int p4), (.int p5)] maxLocals = mkF m 0 #[.val (.int p1), .val (.int p2), .val (.int p3), .val (.int p4), .val (.int p5), .unset, .unset, .unset, .unset, .unset] [] := by first | (simp [entryFrame, mkF, argsToLocals, maxLocals, Value.category]; done) | rfl
set_option maxRecDepth 65536 in
set_option maxHeartbeats 40000000 in
theorem rm0 (l : Launch) (Z : State) (a0 : Array Value) (hw : ∀ d ∈ tables_1, d.before a0 Z = true) (ws : List Jvm.Cond) (p1 : Int32) (p2 : Int32) (p3 : Int32) (p4 : Int32) (p5 : Int32) (h0 : Heap) (n0 : Nat) (Z0 : n0 ≤ h0.size) (G1 : Int32) (O2 : Sta Z Z.heap "java/lang/String" "COMPACT_STRINGS" "Z" (.int G1)) (P5 : ¬ (G1 = (0 : Int32))) (eA : Addr) (SE : Sta Z Z.heap "java/util/Optional" "EMPTY" "Ljava/util/Optional;" (.ref eA)) (XE : Exa Z Z.heap eA "java/util/Optional") (FE : Fld Z Z.heap eA "java/util/Optional" "value" "Ljava/lang/Object;" .null) (X00 : Old Z n0 h0)  :
    MetFree l x (head1 (Jvm.Cond.code x code maxLocals ret :: ws) room_1) (fun a U => a = #[(.int p1), (.int p2), (.int p3), (.int p4), (.int p5)] ∧ Z.Warmed39 U.vm ∧ U.heap = h0) (fun _ _ _ _ _ => True) (fun _ U o U' => ∃ v L, o = .returned v ∧ Qrm0 Z p1 p2 p3 p4 p5 h0 n0 v U'.heap L ∧ FrameEnd U o U' L 40 192) := by
  refine MetFree.of_bodySF (plainFor_of_name pn_com_example_operatory_operatory_fhir_AlternativeOfReferencePinLaw) hisR ?_
  intro p e s m args below meth c s₁ Bd hml0 hP hK
  obtain ⟨rfl, hZ, hh⟩ := hP
  have hx := Bd.exec
  have hby := Bd.bytes
  have hml : c.maxLocals = 10 := hml0
  have hown : s.vm.findClass "com/example/operatory/operatory/fhir/AlternativeOfReferencePinLaw" = some m.cls := findClass_of_methodNamed Bd.named
  have hnm := (name_of_methodNamed Bd.named Bd.method).1
  have hlk : meth.locks = false := BodyLoose.notSynchronized Bd
  have X0 : Stand p l e room_1 s m #[(.int p1), (.int p2), (.int p3), (.int p4), (.int p5)] below meth c s₁ [] 0 0 := Stand.of_body Bd
  have e0 : s₁.heap = h0 := by rw [← hh, Bd.state]; rfl
  have N0 := Fr.nil n0
  show Ends p.tables e below (fun o U' => ∃ v L, o = .returned v ∧ Qrm0 Z p1 p2 p3 p4 p5 h0 n0 v U'.heap L ∧ FrameEnd s o U' L 40 192) (s₁.setTop (entryFrame m #[(.int p1), (.int p2), (.int p3), (.int p4), (.int p5)] maxLocals))
  refine Ends.step (fun t k => castTop (ef_rm0 m p1 p2 p3 p4 p5 ) k) ?_
  show Ends _ _ _ _ (s₁.setTop (mkF m 0 #[.val (.int p1), .val (.int p2), .val (.int p3), .val (.int p4), .val (.int p5), .unset, .unset, .unset, .unset, .unset] []))
  refine Ends.step (fun t k => XS.iloadN X0.here hx rfl (hb hby at_0) rfl k) ?_
  show Ends _ _ _ _ (s₁.setTop (mkF m 1 #[.val (.int p1), .val (.int p2), .val (.int p3), .val (.int p4), .val (.int p5), .unset, .unset, .unset, .unset, .unset] [(.int p1)]))
  obtain ⟨_, _, ⟨T1, L1, k1, n1⟩, -, X1, ⟨Lc1, hQ1, l1, y1, z1⟩, st1⟩ := Jvm.LawKit.callS X0 hx (y := (⟨"com/example/operatory/operatory/fhir/AlternativeOfReferencePinLaw", "str", "(I)Ljava/lang/String;"⟩ : MethodName)) hown (mvT hZ (hw _ (List.mem_of_getElem? (i := 0) rfl))) (mvT hZ (hw _ (List.mem_of_getElem? (i := 1) rfl))) (mvT hZ (hw _ (List.mem_of_getElem? (i := 2) rfl))) (mvT hZ (hw _ (List.mem_of_getElem? (i := 3) rfl))) (by decide) (backOf (W := 0) (rmStr l Z a0 hw [] p1 h0 n0 Z0 G1 O2 P5 eA SE XE FE X00 ) hZ (hw _ (List.mem_of_getElem? (i := 3) rfl)) (hw _ (List.mem_of_getElem? (i := 2) rfl)) (by decide) (by decide)) (g := (mkF m 1 #[.val (.int p1), .val (.int p2), .val (.int p3), .val (.int p4), .val (.int p5), .unset, .unset, .unset, .unset, .unset] [(.int p1)])) rfl (by rw [hml]; rfl) (argsL := [(.int p1)]) (rest := []) (lenOf pd_9 rfl) rfl (by show 2 * 0 + _ ≤ _; exact Nat.le_of_eq rfl) (hb hby at_1) (fun _ _ => ⟨rfl, e0, (by decide : 0 + 3 ≤ _), (by decide : 0 + 8 ≤ _)⟩)
  dsimp only [Pt.U, Pt.locs, Pt.cells, Pt.slots] at X1 l1 y1 z1 st1 hQ1
  have X1 : Stand p l e room_1 s m _ below meth c T1 L1 3 8 := own_reX X1 y1 z1
  obtain ⟨x_1, rfl, Nq1, K1, f1_0, f1_1⟩ := hQ1
  have N1 := own_frApp N0 Nq1 l1
  refine Ends.step st1 ?_
  show Ends _ _ _ _ (T1.setTop (mkF m 4 #[.val (.int p1), .val (.int p2), .val (.int p3), .val (.int p4), .val (.int p5), .unset, .unset, .unset, .unset, .unset] [(.ref x_1)]))
  refine Ends.step (fun t k => XS.astore X1.here hx rfl (hb hby at_4) rfl rfl (l' := #[.val (.int p1), .val (.int p2), .val (.int p3), .val (.int p4), .val (.int p5), .val (.ref x_1), .unset, .unset, .unset, .unset]) rfl k) ?_
  show Ends _ _ _ _ (T1.setTop (mkF m 6 #[.val (.int p1), .val (.int p2), .val (.int p3), .val (.int p4), .val (.int p5), .val (.ref x_1), .unset, .unset, .unset, .unset] []))
  refine Ends.step (fun t k => XS.iload X1.here hx rfl (hb hby at_6) rfl k) ?_
  show Ends _ _ _ _ (T1.setTop (mkF m 8 #[.val (.int p1), .val (.int p2), .val (.int p3), .val (.int p4), .val (.int p5), .val (.ref x_1), .unset, .unset, .unset, .unset] [(.int p5)]))
  refine Ends.step (fun t k => XS.iconst X1.here hx rfl (hb hby at_8) k) ?_
  show Ends _ _ _ _ (T1.setTop (mkF m 9 #[.val (.int p1), .val (.int p2), .val (.int p3), .val (.int p4), .val (.int p5), .val (.ref x_1), .unset, .unset, .unset, .unset] [(.int (1 : Int32)), (.int p5)]))
  refine Ends.step (fun t k => XS.iand X1.here hx rfl (hb hby at_9) rfl k) ?_
  show Ends _ _ _ _ (T1.setTop (mkF m 10 #[.val (.int p1), .val (.int p2), .val (.int p3), .val (.int p4), .val (.int p5), .val (.ref x_1), .unset, .unset, .unset, .unset] [(.int (p5 &&& (1 : Int32)))]))
  have J5 : ∀ (w4 : Value) (T6 : State) (h6 : Heap) (L6 : List Loc) (X6 : Stand p l e room_1 s m #[(.int p1), (.int p2), (.int p3), (.int p4), (.int p5)] below meth c T6 L6 6 16) (e6 : T6.heap = h6) (N6 : Fr n0 L6) (K6 : Keep T1.heap h6 []) (hw4 : Value.isRef w4 = true) (jf7 : Nul Z h6 w4 "java/lang/String"), Ends p.tables e below (fun o U' => ∃ v L, o = .returned v ∧ Qrm0 Z p1 p2 p3 p4 p5 h0 n0 v U'.heap L ∧ FrameEnd s o U' L 40 192) (T6.setTop (mkF m 21 #[.val (.int p1), .val (.int p2), .val (.int p3), .val (.int p4), .val (.int p5), .val (.ref x_1), .unset, .unset, .unset, .unset] [w4])) := by
    intro w4 T6 h6 L6 X6 e6 N6 K6 hw4 jf7
    show Ends _ _ _ _ (T6.setTop (mkF m 21 #[.val (.int p1), .val (.int p2), .val (.int p3), .val (.int p4), .val (.int p5), .val (.ref x_1), .unset, .unset, .unset, .unset] [w4]))
    refine Ends.step (fun t k => XS.astore X6.here hx rfl (hb hby at_21) rfl hw4 (l' := #[.val (.int p1), .val (.int p2), .val (.int p3), .val (.int p4), .val (.int p5), .val (.ref x_1), .val w4, .unset, .unset, .unset]) (XS.store1 (o := .unset) rfl One.u (XT.cat1 hw4)) k) ?_
    show Ends _ _ _ _ (T6.setTop (mkF m 23 #[.val (.int p1), .val (.int p2), .val (.int p3), .val (.int p4), .val (.int p5), .val (.ref x_1), .val w4, .unset, .unset, .unset] []))
    refine Ends.step (fun t k => XS.iload X6.here hx rfl (hb hby at_23) rfl k) ?_
    show Ends _ _ _ _ (T6.setTop (mkF m 25 #[.val (.int p1), .val (.int p2), .val (.int p3), .val (.int p4), .val (.int p5), .val (.ref x_1), .val w4, .unset, .unset, .unset] [(.int p5)]))
    refine Ends.step (fun t k => XS.iconst X6.here hx rfl (hb hby at_25) k) ?_
    show Ends _ _ _ _ (T6.setTop (mkF m 26 #[.val (.int p1), .val (.int p2), .val (.int p3), .val (.int p4), .val (.int p5), .val (.ref x_1), .val w4, .unset, .unset, .unset] [(.int (2 : Int32)), (.int p5)]))
    refine Ends.step (fun t k => XS.iand X6.here hx rfl (hb hby at_26) rfl k) ?_
    show Ends _ _ _ _ (T6.setTop (mkF m 27 #[.val (.int p1), .val (.int p2), .val (.int p3), .val (.int p4), .val (.int p5), .val (.ref x_1), .val w4, .unset, .unset, .unset] [(.int (p5 &&& (2 : Int32)))]))
    have J11 : ∀ (w10 : Value) (T12 : State) (h12 : Heap) (L12 : List Loc) (X12 : Stand p l e room_1 s m #[(.int p1), (.int p2), (.int p3), (.int p4), (.int p5)] below meth c T12 L12 9 24) (e12 : T12.heap = h12) (N12 : Fr n0 L12) (K12 : Keep h6 h12 []) (hw10 : Value.isRef w10 = true) (jf13 : Nul Z h12 w10 "java/lang/String"), Ends p.tables e below (fun o U' => ∃ v L, o = .returned v ∧ Qrm0 Z p1 p2 p3 p4 p5 h0 n0 v U'.heap L ∧ FrameEnd s o U' L 40 192) (T12.setTop (mkF m 38 #[.val (.int p1), .val (.int p2), .val (.int p3), .val (.int p4), .val (.int p5), .val (.ref x_1), .val w4, .unset, .unset, .unset] [w10])) := by
      intro w10 T12 h12 L12 X12 e12 N12 K12 hw10 jf13
      show Ends _ _ _ _ (T12.setTop (mkF m 38 #[.val (.int p1), .val (.int p2), .val (.int p3), .val (.int p4), .val (.int p5), .val (.ref x_1), .val w4, .unset, .unset, .unset] [w10]))
      refine Ends.step (fun t k => XS.astore X12.here hx rfl (hb hby at_38) rfl hw10 (l' := #[.val (.int p1), .val (.int p2), .val (.int p3), .val (.int p4), .val (.int p5), .val (.ref x_1), .val w4, .val w10, .unset, .unset]) (XS.store1 (o := .unset) rfl One.u (XT.cat1 hw10)) k) ?_
      show Ends _ _ _ _ (T12.setTop (mkF m 40 #[.val (.int p1), .val (.int p2), .val (.int p3), .val (.int p4), .val (.int p5), .val (.ref x_1), .val w4, .val w10, .unset, .unset] []))
      refine Ends.step (fun t k => XS.iload X12.here hx rfl (hb hby at_40) rfl k) ?_
      show Ends _ _ _ _ (T12.setTop (mkF m 42 #[.val (.int p1), .val (.int p2), .val (.int p3), .val (.int p4), .val (.int p5), .val (.ref x_1), .val w4, .val w10, .unset, .unset] [(.int p5)]))
      refine Ends.step (fun t k => XS.iconst X12.here hx rfl (hb hby at_42) k) ?_
      show Ends _ _ _ _ (T12.setTop (mkF m 43 #[.val (.int p1), .val (.int p2), .val (.int p3), .val (.int p4), .val (.int p5), .val (.ref x_1), .val w4, .val w10, .unset, .unset] [(.int (4 : Int32)), (.int p5)]))
      refine Ends.step (fun t k => XS.iand X12.here hx rfl (hb hby at_43) rfl k) ?_
      show Ends _ _ _ _ (T12.setTop (mkF m 44 #[.val (.int p1), .val (.int p2), .val (.int p3), .val (.int p4), .val (.int p5), .val (.ref x_1), .val w4, .val w10, .unset, .unset] [(.int (p5 &&& (4 : Int32)))]))
      have J17 : ∀ (w16 : Value) (T18 : State) (h18 : Heap) (L18 : List Loc) (X18 : Stand p l e room_1 s m #[(.int p1), (.int p2), (.int p3), (.int p4), (.int p5)] below meth c T18 L18 12 32) (e18 : T18.heap = h18) (N18 : Fr n0 L18) (K18 : Keep h12 h18 []) (hw16 : Value.isRef w16 = true) (jf19 : Nul Z h18 w16 "java/lang/String"), Ends p.tables e below (fun o U' => ∃ v L, o = .returned v ∧ Qrm0 Z p1 p2 p3 p4 p5 h0 n0 v U'.heap L ∧ FrameEnd s o U' L 40 192) (T18.setTop (mkF m 55 #[.val (.int p1), .val (.int p2), .val (.int p3), .val (.int p4), .val (.int p5), .val (.ref x_1), .val w4, .val w10, .unset, .unset] [w16])) := by
        intro w16 T18 h18 L18 X18 e18 N18 K18 hw16 jf19
        show Ends _ _ _ _ (T18.setTop (mkF m 55 #[.val (.int p1), .val (.int p2), .val (.int p3), .val (.int p4), .val (.int p5), .val (.ref x_1), .val w4, .val w10, .unset, .unset] [w16]))
        refine Ends.step (fun t k => XS.astore X18.here hx rfl (hb hby at_55) rfl hw16 (l' := #[.val (.int p1), .val (.int p2), .val (.int p3), .val (.int p4), .val (.int p5), .val (.ref x_1), .val w4, .val w10, .val w16, .unset]) (XS.store1 (o := .unset) rfl One.u (XT.cat1 hw16)) k) ?_
        show Ends _ _ _ _ (T18.setTop (mkF m 57 #[.val (.int p1), .val (.int p2), .val (.int p3), .val (.int p4), .val (.int p5), .val (.ref x_1), .val w4, .val w10, .val w16, .unset] []))
        refine Ends.step (fun t k => XS.aload X18.here hx rfl (hb hby at_57) rfl rfl k) ?_
        show Ends _ _ _ _ (T18.setTop (mkF m 59 #[.val (.int p1), .val (.int p2), .val (.int p3), .val (.int p4), .val (.int p5), .val (.ref x_1), .val w4, .val w10, .val w16, .unset] [(.ref x_1)]))
        refine Ends.step (fun t k => XS.aload X18.here hx rfl (hb hby at_59) rfl hw4 k) ?_
        show Ends _ _ _ _ (T18.setTop (mkF m 61 #[.val (.int p1), .val (.int p2), .val (.int p3), .val (.int p4), .val (.int p5), .val (.ref x_1), .val w4, .val w10, .val w16, .unset] [w4, (.ref x_1)]))
        refine Ends.step (fun t k => XS.aload X18.here hx rfl (hb hby at_61) rfl hw10 k) ?_
        show Ends _ _ _ _ (T18.setTop (mkF m 63 #[.val (.int p1), .val (.int p2), .val (.int p3), .val (.int p4), .val (.int p5), .val (.ref x_1), .val w4, .val w10, .val w16, .unset] [w10, w4, (.ref x_1)]))
        refine Ends.step (fun t k => XS.aload X18.here hx rfl (hb hby at_63) rfl hw16 k) ?_
        show Ends _ _ _ _ (T18.setTop (mkF m 65 #[.val (.int p1), .val (.int p2), .val (.int p3), .val (.int p4), .val (.int p5), .val (.ref x_1), .val w4, .val w10, .val w16, .unset] [w16, w10, w4, (.ref x_1)]))
        have F20 : Old Z n0 h18 := ((((X00.keep K1 all0).keep K6 all0).keep K12 all0).keep K18 all0)
        obtain ⟨_, _, ⟨T21, L21, k21, n21⟩, -, X21, ⟨Lc21, hQ21, l21, y21, z21⟩, st21⟩ := Jvm.LawKit.callS X18 hx (y := (⟨"com/example/operatory/operatory/fhir/SearchValue$Alternative", "ofReference", "(Ljava/lang/String;Ljava/lang/String;Ljava/lang/String;Ljava/lang/String;)Lcom/example/operatory/operatory/fhir/SearchValue$Alternative;"⟩ : MethodName)) hown (mvT hZ (hw _ (List.mem_of_getElem? (i := 34) rfl))) (mvT hZ (hw _ (List.mem_of_getElem? (i := 35) rfl))) (mvT hZ (hw _ (List.mem_of_getElem? (i := 36) rfl))) (mvT hZ (hw _ (List.mem_of_getElem? (i := 37) rfl))) (by decide) (backOf (W := 0) (rmOf l Z a0 hw [] x_1 w4 w10 w16 h18 n0 (Nat.le_trans Z0 (Nat.le_trans (Nat.le_trans (Nat.le_trans K1.1 K6.1) K12.1) K18.1)) G1 O2 P5 eA SE XE FE F20 hw4 hw10 hw16) hZ (hw _ (List.mem_of_getElem? (i := 37) rfl)) (hw _ (List.mem_of_getElem? (i := 36) rfl)) (by decide) (by decide)) (g := (mkF m 65 #[.val (.int p1), .val (.int p2), .val (.int p3), .val (.int p4), .val (.int p5), .val (.ref x_1), .val w4, .val w10, .val w16, .unset] [w16, w10, w4, (.ref x_1)])) rfl (by rw [hml]; rfl) (argsL := [(.ref x_1), w4, w10, w16]) (rest := []) (lenOf pd_10 rfl) rfl (by show 2 * 0 + _ ≤ _; exact Nat.le_of_eq rfl) (hb hby at_65) (fun _ _ => ⟨rfl, e18, (by decide : 12 + 1 ≤ _), (by decide : 32 + 13 ≤ _)⟩)
        dsimp only [Pt.U, Pt.locs, Pt.cells, Pt.slots] at X21 l21 y21 z21 st21 hQ21
        have X21 : Stand p l e room_1 s m _ below meth c T21 L21 13 45 := own_reX X21 y21 z21
        obtain ⟨x_21, rfl, Nq21, K21, f21_0, f21_1, f21_2, f21_3, f21_4, f21_5, f21_6, f21_7, f21_8, f21_9, f21_10, f21_11, f21_12, f21_13, f21_14⟩ := hQ21
        have N21 := own_frApp N18 Nq21 l21
        refine Ends.step st21 ?_
        show Ends _ _ _ _ (T21.setTop (mkF m 68 #[.val (.int p1), .val (.int p2), .val (.int p3), .val (.int p4), .val (.int p5), .val (.ref x_1), .val w4, .val w10, .val w16, .unset] [(.ref x_21)]))
        refine Ends.step (fun t k => XS.astore X21.here hx rfl (hb hby at_68) rfl rfl (l' := #[.val (.int p1), .val (.int p2), .val (.int p3), .val (.int p4), .val (.int p5), .val (.ref x_1), .val w4, .val w10, .val w16, .val (.ref x_21)]) rfl k) ?_
        show Ends _ _ _ _ (T21.setTop (mkF m 70 #[.val (.int p1), .val (.int p2), .val (.int p3), .val (.int p4), .val (.int p5), .val (.ref x_1), .val w4, .val w10, .val w16, .val (.ref x_21)] []))
        refine Ends.step (fun t k => XS.aload X21.here hx rfl (hb hby at_70) rfl rfl k) ?_
        show Ends _ _ _ _ (T21.setTop (mkF m 72 #[.val (.int p1), .val (.int p2), .val (.int p3), .val (.int p4), .val (.int p5), .val (.ref x_1), .val w4, .val w10, .val w16, .val (.ref x_21)] [(.ref x_21)]))
        have F22 : Old Z n0 T21.heap := (F20.keep K21 all0)
        obtain ⟨cq23, kq23, q23a, q23b, q23c⟩ := isOf hZ rfl f21_1
        obtain ⟨_, _, ⟨T23, L23, k23, n23⟩, -, X23, ⟨Lc23, hQ23, l23, y23, z23⟩, st23⟩ := X21.virtualBack hx (y := (⟨"com/example/operatory/operatory/fhir/SearchValue$Alternative", "text", "()Ljava/lang/String;"⟩ : MethodName)) (z := (⟨"com/example/operatory/operatory/fhir/SearchValue$Alternative", "text", "()Ljava/lang/String;"⟩ : MethodName)) hown (mvT hZ (hw _ (List.mem_of_getElem? (i := 70) rfl))) (mvT hZ (hw _ (List.mem_of_getElem? (i := 71) rfl))) (notFace_of_selects (args := #[]) (mvT hZ (hw _ (List.mem_of_getElem? (i := 73) rfl)))) (mvT hZ (hw _ (List.mem_of_getElem? (i := 73) rfl))) (mvT hZ (hw _ (List.mem_of_getElem? (i := 72) rfl))) (by decide) (backOf (W := 0) (rmText l Z a0 hw [] x_21 (.ref x_1) T21.heap n0 (Nat.le_trans Z0 (Nat.le_trans (Nat.le_trans (Nat.le_trans (Nat.le_trans K1.1 K6.1) K12.1) K18.1) K21.1)) G1 O2 P5 eA SE XE FE F22 f21_2 rfl) hZ (hw _ (List.mem_of_getElem? (i := 74) rfl)) (hw _ (List.mem_of_getElem? (i := 36) rfl)) (by decide) (by decide)) q23a q23c (g := (mkF m 72 #[.val (.int p1), .val (.int p2), .val (.int p3), .val (.int p4), .val (.int p5), .val (.ref x_1), .val w4, .val w10, .val w16, .val (.ref x_21)] [(.ref x_21)])) rfl (by rw [hml]; rfl) (Steps.refl _) (argsL := []) (rest := []) (lenOf pd_11 rfl) rfl (by show 2 * 0 + _ ≤ _; exact Nat.le_of_eq rfl) (hb hby at_72) (fun _ _ => ⟨rfl, rfl, (by decide : 13 + 0 ≤ _), (by decide : 45 + 0 ≤ _)⟩)
        dsimp only [Pt.U, Pt.locs, Pt.cells, Pt.slots] at X23 l23 y23 z23 st23 hQ23
        have X23 : Stand p l e room_1 s m _ below meth c T23 L23 13 45 := own_reX X23 y23 z23
        obtain ⟨rfl, Nq23, eh23⟩ := hQ23
        have N23 := own_frApp N21 Nq23 l23
        refine Ends.go st23 ?_
        show Ends _ _ _ _ (T23.setTop (mkF m 75 #[.val (.int p1), .val (.int p2), .val (.int p3), .val (.int p4), .val (.int p5), .val (.ref x_1), .val w4, .val w10, .val w16, .val (.ref x_21)] [(.ref x_1)]))
        refine Ends.step (fun t k => XS.aload X23.here hx rfl (hb hby at_75) rfl rfl k) ?_
        show Ends _ _ _ _ (T23.setTop (mkF m 77 #[.val (.int p1), .val (.int p2), .val (.int p3), .val (.int p4), .val (.int p5), .val (.ref x_1), .val w4, .val w10, .val w16, .val (.ref x_21)] [(.ref x_1), (.ref x_1)]))
        have F24 : Exa Z T21.heap x_1 "java/lang/String" := ((((f1_1.keep K6).keep K12).keep K18).keep K21)
        obtain ⟨_, _, ⟨T25, L25, k25, n25⟩, -, X25, ⟨Lc25, hQ25, l25, y25, z25⟩, st25⟩ := Jvm.LawKit.callS X23 hx (y := (⟨"com/example/operatory/operatory/fhir/AlternativeOfReferencePinLaw", "same", "(Ljava/lang/String;Ljava/lang/String;)Z"⟩ : MethodName)) hown (mvT hZ (hw _ (List.mem_of_getElem? (i := 75) rfl))) (mvT hZ (hw _ (List.mem_of_getElem? (i := 76) rfl))) (mvT hZ (hw _ (List.mem_of_getElem? (i := 2) rfl))) (mvT hZ (hw _ (List.mem_of_getElem? (i := 77) rfl))) (by decide) (backOf (W := 0) (rmSame l Z a0 hw [] (.ref x_1) T21.heap n0 (Nat.le_trans Z0 (Nat.le_trans (Nat.le_trans (Nat.le_trans (Nat.le_trans K1.1 K6.1) K12.1) K18.1) K21.1)) G1 O2 P5 eA SE XE FE F22 rfl (Or.inr ⟨_, rfl, F24⟩)) hZ (hw _ (List.mem_of_getElem? (i := 77) rfl)) (hw _ (List.mem_of_getElem? (i := 2) rfl)) (by decide) (by decide)) (g := (mkF m 77 #[.val (.int p1), .val (.int p2), .val (.int p3), .val (.int p4), .val (.int p5), .val (.ref x_1), .val w4, .val w10, .val w16, .val (.ref x_21)] [(.ref x_1), (.ref x_1)])) rfl (by rw [hml]; rfl) (argsL := [(.ref x_1), (.ref x_1)]) (rest := []) (lenOf pd_12 rfl) rfl (by show 2 * 0 + _ ≤ _; exact Nat.le_of_eq rfl) (hb hby at_77) (fun _ _ => ⟨rfl, eh23, (by decide : 13 + 0 ≤ _), (by decide : 45 + 0 ≤ _)⟩)
        dsimp only [Pt.U, Pt.locs, Pt.cells, Pt.slots] at X25 l25 y25 z25 st25 hQ25
        have X25 : Stand p l e room_1 s m _ below meth c T25 L25 13 45 := own_reX X25 y25 z25
        obtain ⟨rfl, Nq25, eh25⟩ := hQ25
        have N25 := own_frApp N23 Nq25 l25
        refine Ends.step st25 ?_
        show Ends _ _ _ _ (T25.setTop (mkF m 80 #[.val (.int p1), .val (.int p2), .val (.int p3), .val (.int p4), .val (.int p5), .val (.ref x_1), .val w4, .val w10, .val w16, .val (.ref x_21)] [(.int (1 : Int32))]))
        refine Ends.step (fun t k => XS.ifNo X25.here hx rfl (hb hby at_80) rfl ((if0 _ _).trans (feq (by decide : ¬ ((1 : Int32) = (0 : Int32)))).1) k) ?_
        show Ends _ _ _ _ (T25.setTop (mkF m 83 #[.val (.int p1), .val (.int p2), .val (.int p3), .val (.int p4), .val (.int p5), .val (.ref x_1), .val w4, .val w10, .val w16, .val (.ref x_21)] []))
        refine Ends.step (fun t k => XS.aload X25.here hx rfl (hb hby at_83) rfl rfl k) ?_
        show Ends _ _ _ _ (T25.setTop (mkF m 85 #[.val (.int p1), .val (.int p2), .val (.int p3), .val (.int p4), .val (.int p5), .val (.ref x_1), .val w4, .val w10, .val w16, .val (.ref x_21)] [(.ref x_21)]))
        obtain ⟨cq26, kq26, q26a, q26b, q26c⟩ := isOf hZ eh25 f21_1
        obtain ⟨_, _, ⟨T26, L26, k26, n26⟩, -, X26, ⟨Lc26, hQ26, l26, y26, z26⟩, st26⟩ := X25.virtualBack hx (y := (⟨"com/example/operatory/operatory/fhir/SearchValue$Alternative", "type", "()Ljava/util/Optional;"⟩ : MethodName)) (z := (⟨"com/example/operatory/operatory/fhir/SearchValue$Alternative", "type", "()Ljava/util/Optional;"⟩ : MethodName)) hown (mvT hZ (hw _ (List.mem_of_getElem? (i := 83) rfl))) (mvT hZ (hw _ (List.mem_of_getElem? (i := 84) rfl))) (notFace_of_selects (args := #[]) (mvT hZ (hw _ (List.mem_of_getElem? (i := 86) rfl)))) (mvT hZ (hw _ (List.mem_of_getElem? (i := 86) rfl))) (mvT hZ (hw _ (List.mem_of_getElem? (i := 85) rfl))) (by decide) (backOf (W := 0) (rmGg_type l Z a0 hw [] x_21 w4 T21.heap n0 (Nat.le_trans Z0 (Nat.le_trans (Nat.le_trans (Nat.le_trans (Nat.le_trans K1.1 K6.1) K12.1) K18.1) K21.1)) G1 O2 P5 eA SE XE FE F22 f21_11 hw4) hZ (hw _ (List.mem_of_getElem? (i := 87) rfl)) (hw _ (List.mem_of_getElem? (i := 36) rfl)) (by decide) (by decide)) q26a q26c (g := (mkF m 85 #[.val (.int p1), .val (.int p2), .val (.int p3), .val (.int p4), .val (.int p5), .val (.ref x_1), .val w4, .val w10, .val w16, .val (.ref x_21)] [(.ref x_21)])) rfl (by rw [hml]; rfl) (Steps.refl _) (argsL := []) (rest := []) (lenOf pd_13 rfl) rfl (by show 2 * 0 + _ ≤ _; exact Nat.le_of_eq rfl) (hb hby at_85) (fun _ _ => ⟨rfl, eh25, (by decide : 13 + 1 ≤ _), (by decide : 45 + 1 ≤ _)⟩)
        dsimp only [Pt.U, Pt.locs, Pt.cells, Pt.slots] at X26 l26 y26 z26 st26 hQ26
        have X26 : Stand p l e room_1 s m _ below meth c T26 L26 14 46 := own_reX X26 y26 z26
        obtain ⟨x_26, rfl, Nq26, K26, f26_0, f26_1⟩ := hQ26
        have N26 := own_frApp N25 Nq26 l26
        refine Ends.go st26 ?_
        show Ends _ _ _ _ (T26.setTop (mkF m 88 #[.val (.int p1), .val (.int p2), .val (.int p3), .val (.int p4), .val (.int p5), .val (.ref x_1), .val w4, .val w10, .val w16, .val (.ref x_21)] [(.ref x_26)]))
        refine Ends.step (fun t k => XS.aconstNull X26.here hx rfl (hb hby at_88) k) ?_
        show Ends _ _ _ _ (T26.setTop (mkF m 89 #[.val (.int p1), .val (.int p2), .val (.int p3), .val (.int p4), .val (.int p5), .val (.ref x_1), .val w4, .val w10, .val w16, .val (.ref x_21)] [.null, (.ref x_26)]))
        have F27 : Old Z n0 T26.heap := (F22.keep K26 all0)
        obtain ⟨cq28, kq28, q28a, q28b, q28c⟩ := isOf hZ rfl f26_0
        obtain ⟨_, _, ⟨T28, L28, k28, n28⟩, -, X28, ⟨Lc28, hQ28, l28, y28, z28⟩, st28⟩ := X26.virtualBack hx (y := (⟨"java/util/Optional", "orElse", "(Ljava/lang/Object;)Ljava/lang/Object;"⟩ : MethodName)) (z := (⟨"java/util/Optional", "orElse", "(Ljava/lang/Object;)Ljava/lang/Object;"⟩ : MethodName)) hown (mvT hZ (hw _ (List.mem_of_getElem? (i := 101) rfl))) (mvT hZ (hw _ (List.mem_of_getElem? (i := 102) rfl))) (notFace_of_selects (args := #[]) (mvT hZ (hw _ (List.mem_of_getElem? (i := 104) rfl)))) (mvT hZ (hw _ (List.mem_of_getElem? (i := 104) rfl))) (mvT hZ (hw _ (List.mem_of_getElem? (i := 103) rfl))) (by decide) (backOf (W := 0) (rmOpElG l Z a0 hw [] x_26 w4 T26.heap n0 (Nat.le_trans Z0 (Nat.le_trans (Nat.le_trans (Nat.le_trans (Nat.le_trans (Nat.le_trans K1.1 K6.1) K12.1) K18.1) K21.1) K26.1)) G1 O2 P5 eA SE XE FE F27 f26_1 hw4) hZ (hw _ (List.mem_of_getElem? (i := 105) rfl)) (hw _ (List.mem_of_getElem? (i := 90) rfl)) (by decide) (by decide)) q28a q28c (g := (mkF m 89 #[.val (.int p1), .val (.int p2), .val (.int p3), .val (.int p4), .val (.int p5), .val (.ref x_1), .val w4, .val w10, .val w16, .val (.ref x_21)] [.null, (.ref x_26)])) rfl (by rw [hml]; rfl) (Steps.refl _) (argsL := [.null]) (rest := []) (lenOf pd_14 rfl) rfl (by show 2 * 0 + _ ≤ _; exact Nat.le_of_eq rfl) (hb hby at_89) (fun _ _ => ⟨rfl, rfl, (by decide : 14 + 0 ≤ _), (by decide : 46 + 0 ≤ _)⟩)
        dsimp only [Pt.U, Pt.locs, Pt.cells, Pt.slots] at X28 l28 y28 z28 st28 hQ28
        have X28 : Stand p l e room_1 s m _ below meth c T28 L28 14 46 := own_reX X28 y28 z28
        obtain ⟨rfl, Nq28, eh28⟩ := hQ28
        have N28 := own_frApp N26 Nq28 l28
        refine Ends.go st28 ?_
        show Ends _ _ _ _ (T28.setTop (mkF m 92 #[.val (.int p1), .val (.int p2), .val (.int p3), .val (.int p4), .val (.int p5), .val (.ref x_1), .val w4, .val w10, .val w16, .val (.ref x_21)] [w4]))
        have F29 : Nul Z T26.heap w4 "java/lang/String" := ((((jf7.keep K12).keep K18).keep K21).keep K26)
        obtain ⟨T30, X30, e30, st30⟩ := own_castN X28 hx hZ hown (hw _ (List.mem_of_getElem? (i := 5) rfl)) eh28 F29 (g := (mkF m 92 #[.val (.int p1), .val (.int p2), .val (.int p3), .val (.int p4), .val (.int p5), .val (.ref x_1), .val w4, .val w10, .val w16, .val (.ref x_21)] [w4])) rfl rfl (hb hby at_92)
        refine Ends.step st30 ?_
        show Ends _ _ _ _ (T30.setTop (mkF m 95 #[.val (.int p1), .val (.int p2), .val (.int p3), .val (.int p4), .val (.int p5), .val (.ref x_1), .val w4, .val w10, .val w16, .val (.ref x_21)] [w4]))
        refine Ends.step (fun t k => XS.aload X30.here hx rfl (hb hby at_95) rfl hw4 k) ?_
        show Ends _ _ _ _ (T30.setTop (mkF m 97 #[.val (.int p1), .val (.int p2), .val (.int p3), .val (.int p4), .val (.int p5), .val (.ref x_1), .val w4, .val w10, .val w16, .val (.ref x_21)] [w4, w4]))
        obtain ⟨_, _, ⟨T31, L31, k31, n31⟩, -, X31, ⟨Lc31, hQ31, l31, y31, z31⟩, st31⟩ := Jvm.LawKit.callS X30 hx (y := (⟨"com/example/operatory/operatory/fhir/AlternativeOfReferencePinLaw", "same", "(Ljava/lang/String;Ljava/lang/String;)Z"⟩ : MethodName)) hown (mvT hZ (hw _ (List.mem_of_getElem? (i := 75) rfl))) (mvT hZ (hw _ (List.mem_of_getElem? (i := 76) rfl))) (mvT hZ (hw _ (List.mem_of_getElem? (i := 2) rfl))) (mvT hZ (hw _ (List.mem_of_getElem? (i := 77) rfl))) (by decide) (backOf (W := 0) (rmSame l Z a0 hw [] w4 T26.heap n0 (Nat.le_trans Z0 (Nat.le_trans (Nat.le_trans (Nat.le_trans (Nat.le_trans (Nat.le_trans K1.1 K6.1) K12.1) K18.1) K21.1) K26.1)) G1 O2 P5 eA SE XE FE F27 hw4 F29) hZ (hw _ (List.mem_of_getElem? (i := 77) rfl)) (hw _ (List.mem_of_getElem? (i := 2) rfl)) (by decide) (by decide)) (g := (mkF m 97 #[.val (.int p1), .val (.int p2), .val (.int p3), .val (.int p4), .val (.int p5), .val (.ref x_1), .val w4, .val w10, .val w16, .val (.ref x_21)] [w4, w4])) rfl (by rw [hml]; rfl) (argsL := [w4, w4]) (rest := []) (lenOf pd_12 rfl) rfl (by show 2 * 0 + _ ≤ _; exact Nat.le_of_eq rfl) (hb hby at_97) (fun _ _ => ⟨rfl, e30, (by decide : 14 + 0 ≤ _), (by decide : 46 + 0 ≤ _)⟩)
        dsimp only [Pt.U, Pt.locs, Pt.cells, Pt.slots] at X31 l31 y31 z31 st31 hQ31
        have X31 : Stand p l e room_1 s m _ below meth c T31 L31 14 46 := own_reX X31 y31 z31
        obtain ⟨rfl, Nq31, eh31⟩ := hQ31
        have N31 := own_frApp N28 Nq31 l31
        refine Ends.step st31 ?_
        show Ends _ _ _ _ (T31.setTop (mkF m 100 #[.val (.int p1), .val (.int p2), .val (.int p3), .val (.int p4), .val (.int p5), .val (.ref x_1), .val w4, .val w10, .val w16, .val (.ref x_21)] [(.int (1 : Int32))]))
        refine Ends.step (fun t k => XS.ifNo X31.here hx rfl (hb hby at_100) rfl ((if0 _ _).trans (feq (by decide : ¬ ((1 : Int32) = (0 : Int32)))).1) k) ?_
        show Ends _ _ _ _ (T31.setTop (mkF m 103 #[.val (.int p1), .val (.int p2), .val (.int p3), .val (.int p4), .val (.int p5), .val (.ref x_1), .val w4, .val w10, .val w16, .val (.ref x_21)] []))
        refine Ends.step (fun t k => XS.aload X31.here hx rfl (hb hby at_103) rfl rfl k) ?_
        show Ends _ _ _ _ (T31.setTop (mkF m 105 #[.val (.int p1), .val (.int p2), .val (.int p3), .val (.int p4), .val (.int p5), .val (.ref x_1), .val w4, .val w10, .val w16, .val (.ref x_21)] [(.ref x_21)]))
        have F32 : Exa Z T26.heap x_21 "com/example/operatory/operatory/fhir/SearchValue$Alternative" := (f21_1.keep K26)
        have F33 : Fld Z T26.heap x_21 "com/example/operatory/operatory/fhir/SearchValue$Alternative" "id" "Ljava/lang/String;" w10 := (f21_12.keep K26 nin0)
        obtain ⟨cq34, kq34, q34a, q34b, q34c⟩ := isOf hZ eh31 F32
        obtain ⟨_, _, ⟨T34, L34, k34, n34⟩, -, X34, ⟨Lc34, hQ34, l34, y34, z34⟩, st34⟩ := X31.virtualBack hx (y := (⟨"com/example/operatory/operatory/fhir/SearchValue$Alternative", "id", "()Ljava/util/Optional;"⟩ : MethodName)) (z := (⟨"com/example/operatory/operatory/fhir/SearchValue$Alternative", "id", "()Ljava/util/Optional;"⟩ : MethodName)) hown (mvT hZ (hw _ (List.mem_of_getElem? (i := 106) rfl))) (mvT hZ (hw _ (List.mem_of_getElem? (i := 107) rfl))) (notFace_of_selects (args := #[]) (mvT hZ (hw _ (List.mem_of_getElem? (i := 109) rfl)))) (mvT hZ (hw _ (List.mem_of_getElem? (i := 109) rfl))) (mvT hZ (hw _ (List.mem_of_getElem? (i := 108) rfl))) (by decide) (backOf (W := 0) (rmGg_id l Z a0 hw [] x_21 w10 T26.heap n0 (Nat.le_trans Z0 (Nat.le_trans (Nat.le_trans (Nat.le_trans (Nat.le_trans (Nat.le_trans K1.1 K6.1) K12.1) K18.1) K21.1) K26.1)) G1 O2 P5 eA SE XE FE F27 F33 hw10) hZ (hw _ (List.mem_of_getElem? (i := 110) rfl)) (hw _ (List.mem_of_getElem? (i := 36) rfl)) (by decide) (by decide)) q34a q34c (g := (mkF m 105 #[.val (.int p1), .val (.int p2), .val (.int p3), .val (.int p4), .val (.int p5), .val (.ref x_1), .val w4, .val w10, .val w16, .val (.ref x_21)] [(.ref x_21)])) rfl (by rw [hml]; rfl) (Steps.refl _) (argsL := []) (rest := []) (lenOf pd_13 rfl) rfl (by show 2 * 0 + _ ≤ _; exact Nat.le_of_eq rfl) (hb hby at_105) (fun _ _ => ⟨rfl, eh31, (by decide : 14 + 1 ≤ _), (by decide : 46 + 1 ≤ _)⟩)
        dsimp only [Pt.U, Pt.locs, Pt.cells, Pt.slots] at X34 l34 y34 z34 st34 hQ34
        have X34 : Stand p l e room_1 s m _ below meth c T34 L34 15 47 := own_reX X34 y34 z34
        obtain ⟨x_34, rfl, Nq34, K34, f34_0, f34_1⟩ := hQ34
        have N34 := own_frApp N31 Nq34 l34
        refine Ends.go st34 ?_
        show Ends _ _ _ _ (T34.setTop (mkF m 108 #[.val (.int p1), .val (.int p2), .val (.int p3), .val (.int p4), .val (.int p5), .val (.ref x_1), .val w4, .val w10, .val w16, .val (.ref x_21)] [(.ref x_34)]))
        refine Ends.step (fun t k => XS.aconstNull X34.here hx rfl (hb hby at_108) k) ?_
        show Ends _ _ _ _ (T34.setTop (mkF m 109 #[.val (.int p1), .val (.int p2), .val (.int p3), .val (.int p4), .val (.int p5), .val (.ref x_1), .val w4, .val w10, .val w16, .val (.ref x_21)] [.null, (.ref x_34)]))
        have F35 : Old Z n0 T34.heap := (F27.keep K34 all0)
        obtain ⟨cq36, kq36, q36a, q36b, q36c⟩ := isOf hZ rfl f34_0
        obtain ⟨_, _, ⟨T36, L36, k36, n36⟩, -, X36, ⟨Lc36, hQ36, l36, y36, z36⟩, st36⟩ := X34.virtualBack hx (y := (⟨"java/util/Optional", "orElse", "(Ljava/lang/Object;)Ljava/lang/Object;"⟩ : MethodName)) (z := (⟨"java/util/Optional", "orElse", "(Ljava/lang/Object;)Ljava/lang/Object;"⟩ : MethodName)) hown (mvT hZ (hw _ (List.mem_of_getElem? (i := 101) rfl))) (mvT hZ (hw _ (List.mem_of_getElem? (i := 102) rfl))) (notFace_of_selects (args := #[]) (mvT hZ (hw _ (List.mem_of_getElem? (i := 104) rfl)))) (mvT hZ (hw _ (List.mem_of_getElem? (i := 104) rfl))) (mvT hZ (hw _ (List.mem_of_getElem? (i := 103) rfl))) (by decide) (backOf (W := 0) (rmOpElG l Z a0 hw [] x_34 w10 T34.heap n0 (Nat.le_trans Z0 (Nat.le_trans (Nat.le_trans (Nat.le_trans (Nat.le_trans (Nat.le_trans (Nat.le_trans K1.1 K6.1) K12.1) K18.1) K21.1) K26.1) K34.1)) G1 O2 P5 eA SE XE FE F35 f34_1 hw10) hZ (hw _ (List.mem_of_getElem? (i := 105) rfl)) (hw _ (List.mem_of_getElem? (i := 90) rfl)) (by decide) (by decide)) q36a q36c (g := (mkF m 109 #[.val (.int p1), .val (.int p2), .val (.int p3), .val (.int p4), .val (.int p5), .val (.ref x_1), .val w4, .val w10, .val w16, .val (.ref x_21)] [.null, (.ref x_34)])) rfl (by rw [hml]; rfl) (Steps.refl _) (argsL := [.null]) (rest := []) (lenOf pd_14 rfl) rfl (by show 2 * 0 + _ ≤ _; exact Nat.le_of_eq rfl) (hb hby at_109) (fun _ _ => ⟨rfl, rfl, (by decide : 15 + 0 ≤ _), (by decide : 47 + 0 ≤ _)⟩)
        dsimp only [Pt.U, Pt.locs, Pt.cells, Pt.slots] at X36 l36 y36 z36 st36 hQ36
        have X36 : Stand p l e room_1 s m _ below meth c T36 L36 15 47 := own_reX X36 y36 z36
        obtain ⟨rfl, Nq36, eh36⟩ := hQ36
        have N36 := own_frApp N34 Nq36 l36
        refine Ends.go st36 ?_
        show Ends _ _ _ _ (T36.setTop (mkF m 112 #[.val (.int p1), .val (.int p2), .val (.int p3), .val (.int p4), .val (.int p5), .val (.ref x_1), .val w4, .val w10, .val w16, .val (.ref x_21)] [w10]))
        have F37 : Nul Z T34.heap w10 "java/lang/String" := ((((jf13.keep K18).keep K21).keep K26).keep K34)
        obtain ⟨T38, X38, e38, st38⟩ := own_castN X36 hx hZ hown (hw _ (List.mem_of_getElem? (i := 5) rfl)) eh36 F37 (g := (mkF m 112 #[.val (.int p1), .val (.int p2), .val (.int p3), .val (.int p4), .val (.int p5), .val (.ref x_1), .val w4, .val w10, .val w16, .val (.ref x_21)] [w10])) rfl rfl (hb hby at_112)
        refine Ends.step st38 ?_
        show Ends _ _ _ _ (T38.setTop (mkF m 115 #[.val (.int p1), .val (.int p2), .val (.int p3), .val (.int p4), .val (.int p5), .val (.ref x_1), .val w4, .val w10, .val w16, .val (.ref x_21)] [w10]))
        refine Ends.step (fun t k => XS.aload X38.here hx rfl (hb hby at_115) rfl hw10 k) ?_
        show Ends _ _ _ _ (T38.setTop (mkF m 117 #[.val (.int p1), .val (.int p2), .val (.int p3), .val (.int p4), .val (.int p5), .val (.ref x_1), .val w4, .val w10, .val w16, .val (.ref x_21)] [w10, w10]))
        obtain ⟨_, _, ⟨T39, L39, k39, n39⟩, -, X39, ⟨Lc39, hQ39, l39, y39, z39⟩, st39⟩ := Jvm.LawKit.callS X38 hx (y := (⟨"com/example/operatory/operatory/fhir/AlternativeOfReferencePinLaw", "same", "(Ljava/lang/String;Ljava/lang/String;)Z"⟩ : MethodName)) hown (mvT hZ (hw _ (List.mem_of_getElem? (i := 75) rfl))) (mvT hZ (hw _ (List.mem_of_getElem? (i := 76) rfl))) (mvT hZ (hw _ (List.mem_of_getElem? (i := 2) rfl))) (mvT hZ (hw _ (List.mem_of_getElem? (i := 77) rfl))) (by decide) (backOf (W := 0) (rmSame l Z a0 hw [] w10 T34.heap n0 (Nat.le_trans Z0 (Nat.le_trans (Nat.le_trans (Nat.le_trans (Nat.le_trans (Nat.le_trans (Nat.le_trans K1.1 K6.1) K12.1) K18.1) K21.1) K26.1) K34.1)) G1 O2 P5 eA SE XE FE F35 hw10 F37) hZ (hw _ (List.mem_of_getElem? (i := 77) rfl)) (hw _ (List.mem_of_getElem? (i := 2) rfl)) (by decide) (by decide)) (g := (mkF m 117 #[.val (.int p1), .val (.int p2), .val (.int p3), .val (.int p4), .val (.int p5), .val (.ref x_1), .val w4, .val w10, .val w16, .val (.ref x_21)] [w10, w10])) rfl (by rw [hml]; rfl) (argsL := [w10, w10]) (rest := []) (lenOf pd_12 rfl) rfl (by show 2 * 0 + _ ≤ _; exact Nat.le_of_eq rfl) (hb hby at_117) (fun _ _ => ⟨rfl, e38, (by decide : 15 + 0 ≤ _), (by decide : 47 + 0 ≤ _)⟩)
        dsimp only [Pt.U, Pt.locs, Pt.cells, Pt.slots] at X39 l39 y39 z39 st39 hQ39
        have X39 : Stand p l e room_1 s m _ below meth c T39 L39 15 47 := own_reX X39 y39 z39
        obtain ⟨rfl, Nq39, eh39⟩ := hQ39
        have N39 := own_frApp N36 Nq39 l39
        refine Ends.step st39 ?_
        show Ends _ _ _ _ (T39.setTop (mkF m 120 #[.val (.int p1), .val (.int p2), .val (.int p3), .val (.int p4), .val (.int p5), .val (.ref x_1), .val w4, .val w10, .val w16, .val (.ref x_21)] [(.int (1 : Int32))]))
        refine Ends.step (fun t k => XS.ifNo X39.here hx rfl (hb hby at_120) rfl ((if0 _ _).trans (feq (by decide : ¬ ((1 : Int32) = (0 : Int32)))).1) k) ?_
        show Ends _ _ _ _ (T39.setTop (mkF m 123 #[.val (.int p1), .val (.int p2), .val (.int p3), .val (.int p4), .val (.int p5), .val (.ref x_1), .val w4, .val w10, .val w16, .val (.ref x_21)] []))
        refine Ends.step (fun t k => XS.aload X39.here hx rfl (hb hby at_123) rfl rfl k) ?_
        show Ends _ _ _ _ (T39.setTop (mkF m 125 #[.val (.int p1), .val (.int p2), .val (.int p3), .val (.int p4), .val (.int p5), .val (.ref x_1), .val w4, .val w10, .val w16, .val (.ref x_21)] [(.ref x_21)]))
        have F40 : Exa Z T34.heap x_21 "com/example/operatory/operatory/fhir/SearchValue$Alternative" := (F32.keep K34)
        have F41 : Fld Z T34.heap x_21 "com/example/operatory/operatory/fhir/SearchValue$Alternative" "url" "Ljava/lang/String;" w16 := ((f21_13.keep K26 nin0).keep K34 nin0)
        obtain ⟨cq42, kq42, q42a, q42b, q42c⟩ := isOf hZ eh39 F40
        obtain ⟨_, _, ⟨T42, L42, k42, n42⟩, -, X42, ⟨Lc42, hQ42, l42, y42, z42⟩, st42⟩ := X39.virtualBack hx (y := (⟨"com/example/operatory/operatory/fhir/SearchValue$Alternative", "url", "()Ljava/util/Optional;"⟩ : MethodName)) (z := (⟨"com/example/operatory/operatory/fhir/SearchValue$Alternative", "url", "()Ljava/util/Optional;"⟩ : MethodName)) hown (mvT hZ (hw _ (List.mem_of_getElem? (i := 111) rfl))) (mvT hZ (hw _ (List.mem_of_getElem? (i := 112) rfl))) (notFace_of_selects (args := #[]) (mvT hZ (hw _ (List.mem_of_getElem? (i := 114) rfl)))) (mvT hZ (hw _ (List.mem_of_getElem? (i := 114) rfl))) (mvT hZ (hw _ (List.mem_of_getElem? (i := 113) rfl))) (by decide) (backOf (W := 0) (rmGg_url l Z a0 hw [] x_21 w16 T34.heap n0 (Nat.le_trans Z0 (Nat.le_trans (Nat.le_trans (Nat.le_trans (Nat.le_trans (Nat.le_trans (Nat.le_trans K1.1 K6.1) K12.1) K18.1) K21.1) K26.1) K34.1)) G1 O2 P5 eA SE XE FE F35 F41 hw16) hZ (hw _ (List.mem_of_getElem? (i := 115) rfl)) (hw _ (List.mem_of_getElem? (i := 36) rfl)) (by decide) (by decide)) q42a q42c (g := (mkF m 125 #[.val (.int p1), .val (.int p2), .val (.int p3), .val (.int p4), .val (.int p5), .val (.ref x_1), .val w4, .val w10, .val w16, .val (.ref x_21)] [(.ref x_21)])) rfl (by rw [hml]; rfl) (Steps.refl _) (argsL := []) (rest := []) (lenOf pd_13 rfl) rfl (by show 2 * 0 + _ ≤ _; exact Nat.le_of_eq rfl) (hb hby at_125) (fun _ _ => ⟨rfl, eh39, (by decide : 15 + 1 ≤ _), (by decide : 47 + 1 ≤ _)⟩)
        dsimp only [Pt.U, Pt.locs, Pt.cells, Pt.slots] at X42 l42 y42 z42 st42 hQ42
        have X42 : Stand p l e room_1 s m _ below meth c T42 L42 16 48 := own_reX X42 y42 z42
        obtain ⟨x_42, rfl, Nq42, K42, f42_0, f42_1⟩ := hQ42
        have N42 := own_frApp N39 Nq42 l42
        refine Ends.go st42 ?_
        show Ends _ _ _ _ (T42.setTop (mkF m 128 #[.val (.int p1), .val (.int p2), .val (.int p3), .val (.int p4), .val (.int p5), .val (.ref x_1), .val w4, .val w10, .val w16, .val (.ref x_21)] [(.ref x_42)]))
        refine Ends.step (fun t k => XS.aconstNull X42.here hx rfl (hb hby at_128) k) ?_
        show Ends _ _ _ _ (T42.setTop (mkF m 129 #[.val (.int p1), .val (.int p2), .val (.int p3), .val (.int p4), .val (.int p5), .val (.ref x_1), .val w4, .val w10, .val w16, .val (.ref x_21)] [.null, (.ref x_42)]))
        have F43 : Old Z n0 T42.heap := (F35.keep K42 all0)
        obtain ⟨cq44, kq44, q44a, q44b, q44c⟩ := isOf hZ rfl f42_0
        obtain ⟨_, _, ⟨T44, L44, k44, n44⟩, -, X44, ⟨Lc44, hQ44, l44, y44, z44⟩, st44⟩ := X42.virtualBack hx (y := (⟨"java/util/Optional", "orElse", "(Ljava/lang/Object;)Ljava/lang/Object;"⟩ : MethodName)) (z := (⟨"java/util/Optional", "orElse", "(Ljava/lang/Object;)Ljava/lang/Object;"⟩ : MethodName)) hown (mvT hZ (hw _ (List.mem_of_getElem? (i := 101) rfl))) (mvT hZ (hw _ (List.mem_of_getElem? (i := 102) rfl))) (notFace_of_selects (args := #[]) (mvT hZ (hw _ (List.mem_of_getElem? (i := 104) rfl)))) (mvT hZ (hw _ (List.mem_of_getElem? (i := 104) rfl))) (mvT hZ (hw _ (List.mem_of_getElem? (i := 103) rfl))) (by decide) (backOf (W := 0) (rmOpElG l Z a0 hw [] x_42 w16 T42.heap n0 (Nat.le_trans Z0 (Nat.le_trans (Nat.le_trans (Nat.le_trans (Nat.le_trans (Nat.le_trans (Nat.le_trans (Nat.le_trans K1.1 K6.1) K12.1) K18.1) K21.1) K26.1) K34.1) K42.1)) G1 O2 P5 eA SE XE FE F43 f42_1 hw16) hZ (hw _ (List.mem_of_getElem? (i := 105) rfl)) (hw _ (List.mem_of_getElem? (i := 90) rfl)) (by decide) (by decide)) q44a q44c (g := (mkF m 129 #[.val (.int p1), .val (.int p2), .val (.int p3), .val (.int p4), .val (.int p5), .val (.ref x_1), .val w4, .val w10, .val w16, .val (.ref x_21)] [.null, (.ref x_42)])) rfl (by rw [hml]; rfl) (Steps.refl _) (argsL := [.null]) (rest := []) (lenOf pd_14 rfl) rfl (by show 2 * 0 + _ ≤ _; exact Nat.le_of_eq rfl) (hb hby at_129) (fun _ _ => ⟨rfl, rfl, (by decide : 16 + 0 ≤ _), (by decide : 48 + 0 ≤ _)⟩)
        dsimp only [Pt.U, Pt.locs, Pt.cells, Pt.slots] at X44 l44 y44 z44 st44 hQ44
        have X44 : Stand p l e room_1 s m _ below meth c T44 L44 16 48 := own_reX X44 y44 z44
        obtain ⟨rfl, Nq44, eh44⟩ := hQ44
        have N44 := own_frApp N42 Nq44 l44
        refine Ends.go st44 ?_
        show Ends _ _ _ _ (T44.setTop (mkF m 132 #[.val (.int p1), .val (.int p2), .val (.int p3), .val (.int p4), .val (.int p5), .val (.ref x_1), .val w4, .val w10, .val w16, .val (.ref x_21)] [w16]))
        have F45 : Nul Z T42.heap w16 "java/lang/String" := ((((jf19.keep K21).keep K26).keep K34).keep K42)
        obtain ⟨T46, X46, e46, st46⟩ := own_castN X44 hx hZ hown (hw _ (List.mem_of_getElem? (i := 5) rfl)) eh44 F45 (g := (mkF m 132 #[.val (.int p1), .val (.int p2), .val (.int p3), .val (.int p4), .val (.int p5), .val (.ref x_1), .val w4, .val w10, .val w16, .val (.ref x_21)] [w16])) rfl rfl (hb hby at_132)
        refine Ends.step st46 ?_
        show Ends _ _ _ _ (T46.setTop (mkF m 135 #[.val (.int p1), .val (.int p2), .val (.int p3), .val (.int p4), .val (.int p5), .val (.ref x_1), .val w4, .val w10, .val w16, .val (.ref x_21)] [w16]))
        refine Ends.step (fun t k => XS.aload X46.here hx rfl (hb hby at_135) rfl hw16 k) ?_
        show Ends _ _ _ _ (T46.setTop (mkF m 137 #[.val (.int p1), .val (.int p2), .val (.int p3), .val (.int p4), .val (.int p5), .val (.ref x_1), .val w4, .val w10, .val w16, .val (.ref x_21)] [w16, w16]))
        obtain ⟨_, _, ⟨T47, L47, k47, n47⟩, -, X47, ⟨Lc47, hQ47, l47, y47, z47⟩, st47⟩ := Jvm.LawKit.callS X46 hx (y := (⟨"com/example/operatory/operatory/fhir/AlternativeOfReferencePinLaw", "same", "(Ljava/lang/String;Ljava/lang/String;)Z"⟩ : MethodName)) hown (mvT hZ (hw _ (List.mem_of_getElem? (i := 75) rfl))) (mvT hZ (hw _ (List.mem_of_getElem? (i := 76) rfl))) (mvT hZ (hw _ (List.mem_of_getElem? (i := 2) rfl))) (mvT hZ (hw _ (List.mem_of_getElem? (i := 77) rfl))) (by decide) (backOf (W := 0) (rmSame l Z a0 hw [] w16 T42.heap n0 (Nat.le_trans Z0 (Nat.le_trans (Nat.le_trans (Nat.le_trans (Nat.le_trans (Nat.le_trans (Nat.le_trans (Nat.le_trans K1.1 K6.1) K12.1) K18.1) K21.1) K26.1) K34.1) K42.1)) G1 O2 P5 eA SE XE FE F43 hw16 F45) hZ (hw _ (List.mem_of_getElem? (i := 77) rfl)) (hw _ (List.mem_of_getElem? (i := 2) rfl)) (by decide) (by decide)) (g := (mkF m 137 #[.val (.int p1), .val (.int p2), .val (.int p3), .val (.int p4), .val (.int p5), .val (.ref x_1), .val w4, .val w10, .val w16, .val (.ref x_21)] [w16, w16])) rfl (by rw [hml]; rfl) (argsL := [w16, w16]) (rest := []) (lenOf pd_12 rfl) rfl (by show 2 * 0 + _ ≤ _; exact Nat.le_of_eq rfl) (hb hby at_137) (fun _ _ => ⟨rfl, e46, (by decide : 16 + 0 ≤ _), (by decide : 48 + 0 ≤ _)⟩)
        dsimp only [Pt.U, Pt.locs, Pt.cells, Pt.slots] at X47 l47 y47 z47 st47 hQ47
        have X47 : Stand p l e room_1 s m _ below meth c T47 L47 16 48 := own_reX X47 y47 z47
        obtain ⟨rfl, Nq47, eh47⟩ := hQ47
        have N47 := own_frApp N44 Nq47 l47
        refine Ends.step st47 ?_
        show Ends _ _ _ _ (T47.setTop (mkF m 140 #[.val (.int p1), .val (.int p2), .val (.int p3), .val (.int p4), .val (.int p5), .val (.ref x_1), .val w4, .val w10, .val w16, .val (.ref x_21)] [(.int (1 : Int32))]))
        refine Ends.step (fun t k => XS.ifNo X47.here hx rfl (hb hby at_140) rfl ((if0 _ _).trans (feq (by decide : ¬ ((1 : Int32) = (0 : Int32)))).1) k) ?_
        show Ends _ _ _ _ (T47.setTop (mkF m 143 #[.val (.int p1), .val (.int p2), .val (.int p3), .val (.int p4), .val (.int p5), .val (.ref x_1), .val w4, .val w10, .val w16, .val (.ref x_21)] []))
        refine Ends.step (fun t k => XS.aload X47.here hx rfl (hb hby at_143) rfl rfl k) ?_
        show Ends _ _ _ _ (T47.setTop (mkF m 145 #[.val (.int p1), .val (.int p2), .val (.int p3), .val (.int p4), .val (.int p5), .val (.ref x_1), .val w4, .val w10, .val w16, .val (.ref x_21)] [(.ref x_21)]))
        have F48 : Exa Z T42.heap x_21 "com/example/operatory/operatory/fhir/SearchValue$Alternative" := (F40.keep K42)
        have F49 : Fld Z T42.heap x_21 "com/example/operatory/operatory/fhir/SearchValue$Alternative" "prefix" "Lcom/example/operatory/operatory/fhir/SearchValue$Prefix;" .null := (((f21_3.keep K26 nin0).keep K34 nin0).keep K42 nin0)
        obtain ⟨cq50, kq50, q50a, q50b, q50c⟩ := isOf hZ eh47 F48
        obtain ⟨_, _, ⟨T50, L50, k50, n50⟩, -, X50, ⟨Lc50, hQ50, l50, y50, z50⟩, st50⟩ := X47.virtualBack hx (y := (⟨"com/example/operatory/operatory/fhir/SearchValue$Alternative", "prefix", "()Ljava/util/Optional;"⟩ : MethodName)) (z := (⟨"com/example/operatory/operatory/fhir/SearchValue$Alternative", "prefix", "()Ljava/util/Optional;"⟩ : MethodName)) hown (mvT hZ (hw _ (List.mem_of_getElem? (i := 116) rfl))) (mvT hZ (hw _ (List.mem_of_getElem? (i := 117) rfl))) (notFace_of_selects (args := #[]) (mvT hZ (hw _ (List.mem_of_getElem? (i := 119) rfl)))) (mvT hZ (hw _ (List.mem_of_getElem? (i := 119) rfl))) (mvT hZ (hw _ (List.mem_of_getElem? (i := 118) rfl))) (by decide) (backOf (W := 0) (rmGn_prefix l Z a0 hw [] x_21 T42.heap n0 (Nat.le_trans Z0 (Nat.le_trans (Nat.le_trans (Nat.le_trans (Nat.le_trans (Nat.le_trans (Nat.le_trans (Nat.le_trans K1.1 K6.1) K12.1) K18.1) K21.1) K26.1) K34.1) K42.1)) G1 O2 P5 eA SE XE FE F43 F49) hZ (hw _ (List.mem_of_getElem? (i := 120) rfl)) (hw _ (List.mem_of_getElem? (i := 36) rfl)) (by decide) (by decide)) q50a q50c (g := (mkF m 145 #[.val (.int p1), .val (.int p2), .val (.int p3), .val (.int p4), .val (.int p5), .val (.ref x_1), .val w4, .val w10, .val w16, .val (.ref x_21)] [(.ref x_21)])) rfl (by rw [hml]; rfl) (Steps.refl _) (argsL := []) (rest := []) (lenOf pd_13 rfl) rfl (by show 2 * 0 + _ ≤ _; exact Nat.le_of_eq rfl) (hb hby at_145) (fun _ _ => ⟨rfl, eh47, (by decide : 16 + 0 ≤ _), (by decide : 48 + 0 ≤ _)⟩)
        dsimp only [Pt.U, Pt.locs, Pt.cells, Pt.slots] at X50 l50 y50 z50 st50 hQ50
        have X50 : Stand p l e room_1 s m _ below meth c T50 L50 16 48 := own_reX X50 y50 z50
        obtain ⟨rfl, Nq50, eh50⟩ := hQ50
        have N50 := own_frApp N47 Nq50 l50
        refine Ends.go st50 ?_
        show Ends _ _ _ _ (T50.setTop (mkF m 148 #[.val (.int p1), .val (.int p2), .val (.int p3), .val (.int p4), .val (.int p5), .val (.ref x_1), .val w4, .val w10, .val w16, .val (.ref x_21)] [(.ref eA)]))
        have F51 : Exa Z T42.heap eA "java/util/Optional" := (((((((((XE.ext X00.2).keep K1).keep K6).keep K12).keep K18).keep K21).keep K26).keep K34).keep K42)
        have F52 : Fld Z T42.heap eA "java/util/Optional" "value" "Ljava/lang/Object;" .null := (((((((((FE.ext X00.2).keep K1 nin0).keep K6 nin0).keep K12 nin0).keep K18 nin0).keep K21 nin0).keep K26 nin0).keep K34 nin0).keep K42 nin0)
        obtain ⟨cq53, kq53, q53a, q53b, q53c⟩ := isOf hZ eh50 F51
        obtain ⟨_, _, ⟨T53, L53, k53, n53⟩, -, X53, ⟨Lc53, hQ53, l53, y53, z53⟩, st53⟩ := X50.virtualBack hx (y := (⟨"java/util/Optional", "isPresent", "()Z"⟩ : MethodName)) (z := (⟨"java/util/Optional", "isPresent", "()Z"⟩ : MethodName)) hown (mvT hZ (hw _ (List.mem_of_getElem? (i := 122) rfl))) (mvT hZ (hw _ (List.mem_of_getElem? (i := 123) rfl))) (notFace_of_selects (args := #[]) (mvT hZ (hw _ (List.mem_of_getElem? (i := 125) rfl)))) (mvT hZ (hw _ (List.mem_of_getElem? (i := 125) rfl))) (mvT hZ (hw _ (List.mem_of_getElem? (i := 124) rfl))) (by decide) (backOf (W := 0) (rmOp_isPresent_n l Z a0 hw [] eA T42.heap n0 (Nat.le_trans Z0 (Nat.le_trans (Nat.le_trans (Nat.le_trans (Nat.le_trans (Nat.le_trans (Nat.le_trans (Nat.le_trans K1.1 K6.1) K12.1) K18.1) K21.1) K26.1) K34.1) K42.1)) G1 O2 P5 eA SE XE FE F43 F52) hZ (hw _ (List.mem_of_getElem? (i := 126) rfl)) (hw _ (List.mem_of_getElem? (i := 90) rfl)) (by decide) (by decide)) q53a q53c (g := (mkF m 148 #[.val (.int p1), .val (.int p2), .val (.int p3), .val (.int p4), .val (.int p5), .val (.ref x_1), .val w4, .val w10, .val w16, .val (.ref x_21)] [(.ref eA)])) rfl (by rw [hml]; rfl) (Steps.refl _) (argsL := []) (rest := []) (lenOf pd_15 rfl) rfl (by show 2 * 0 + _ ≤ _; exact Nat.le_of_eq rfl) (hb hby at_148) (fun _ _ => ⟨rfl, eh50, (by decide : 16 + 0 ≤ _), (by decide : 48 + 0 ≤ _)⟩)
        dsimp only [Pt.U, Pt.locs, Pt.cells, Pt.slots] at X53 l53 y53 z53 st53 hQ53
        have X53 : Stand p l e room_1 s m _ below meth c T53 L53 16 48 := own_reX X53 y53 z53
        obtain ⟨rfl, Nq53, eh53⟩ := hQ53
        have N53 := own_frApp N50 Nq53 l53
        refine Ends.go st53 ?_
        show Ends _ _ _ _ (T53.setTop (mkF m 151 #[.val (.int p1), .val (.int p2), .val (.int p3), .val (.int p4), .val (.int p5), .val (.ref x_1), .val w4, .val w10, .val w16, .val (.ref x_21)] [(.int (0 : Int32))]))
        refine Ends.step (fun t k => XS.ifNo X53.here hx rfl (hb hby at_151) rfl ((if0 _ _).trans (teq (by decide : ((0 : Int32) = (0 : Int32)))).2) k) ?_
        show Ends _ _ _ _ (T53.setTop (mkF m 154 #[.val (.int p1), .val (.int p2), .val (.int p3), .val (.int p4), .val (.int p5), .val (.ref x_1), .val w4, .val w10, .val w16, .val (.ref x_21)] []))
        refine Ends.step (fun t k => XS.aload X53.here hx rfl (hb hby at_154) rfl rfl k) ?_
        show Ends _ _ _ _ (T53.setTop (mkF m 156 #[.val (.int p1), .val (.int p2), .val (.int p3), .val (.int p4), .val (.int p5), .val (.ref x_1), .val w4, .val w10, .val w16, .val (.ref x_21)] [(.ref x_21)]))
        have F54 : Fld Z T42.heap x_21 "com/example/operatory/operatory/fhir/SearchValue$Alternative" "number" "Ljava/math/BigDecimal;" .null := (((f21_4.keep K26 nin0).keep K34 nin0).keep K42 nin0)
        obtain ⟨cq55, kq55, q55a, q55b, q55c⟩ := isOf hZ eh53 F48
        obtain ⟨_, _, ⟨T55, L55, k55, n55⟩, -, X55, ⟨Lc55, hQ55, l55, y55, z55⟩, st55⟩ := X53.virtualBack hx (y := (⟨"com/example/operatory/operatory/fhir/SearchValue$Alternative", "number", "()Ljava/util/Optional;"⟩ : MethodName)) (z := (⟨"com/example/operatory/operatory/fhir/SearchValue$Alternative", "number", "()Ljava/util/Optional;"⟩ : MethodName)) hown (mvT hZ (hw _ (List.mem_of_getElem? (i := 127) rfl))) (mvT hZ (hw _ (List.mem_of_getElem? (i := 128) rfl))) (notFace_of_selects (args := #[]) (mvT hZ (hw _ (List.mem_of_getElem? (i := 130) rfl)))) (mvT hZ (hw _ (List.mem_of_getElem? (i := 130) rfl))) (mvT hZ (hw _ (List.mem_of_getElem? (i := 129) rfl))) (by decide) (backOf (W := 0) (rmGn_number l Z a0 hw [] x_21 T42.heap n0 (Nat.le_trans Z0 (Nat.le_trans (Nat.le_trans (Nat.le_trans (Nat.le_trans (Nat.le_trans (Nat.le_trans (Nat.le_trans K1.1 K6.1) K12.1) K18.1) K21.1) K26.1) K34.1) K42.1)) G1 O2 P5 eA SE XE FE F43 F54) hZ (hw _ (List.mem_of_getElem? (i := 131) rfl)) (hw _ (List.mem_of_getElem? (i := 36) rfl)) (by decide) (by decide)) q55a q55c (g := (mkF m 156 #[.val (.int p1), .val (.int p2), .val (.int p3), .val (.int p4), .val (.int p5), .val (.ref x_1), .val w4, .val w10, .val w16, .val (.ref x_21)] [(.ref x_21)])) rfl (by rw [hml]; rfl) (Steps.refl _) (argsL := []) (rest := []) (lenOf pd_13 rfl) rfl (by show 2 * 0 + _ ≤ _; exact Nat.le_of_eq rfl) (hb hby at_156) (fun _ _ => ⟨rfl, eh53, (by decide : 16 + 0 ≤ _), (by decide : 48 + 0 ≤ _)⟩)
        dsimp only [Pt.U, Pt.locs, Pt.cells, Pt.slots] at X55 l55 y55 z55 st55 hQ55
        have X55 : Stand p l e room_1 s m _ below meth c T55 L55 16 48 := own_reX X55 y55 z55
        obtain ⟨rfl, Nq55, eh55⟩ := hQ55
        have N55 := own_frApp N53 Nq55 l55
        refine Ends.go st55 ?_
        show Ends _ _ _ _ (T55.setTop (mkF m 159 #[.val (.int p1), .val (.int p2), .val (.int p3), .val (.int p4), .val (.int p5), .val (.ref x_1), .val w4, .val w10, .val w16, .val (.ref x_21)] [(.ref eA)]))
        obtain ⟨cq56, kq56, q56a, q56b, q56c⟩ := isOf hZ eh55 F51
        obtain ⟨_, _, ⟨T56, L56, k56, n56⟩, -, X56, ⟨Lc56, hQ56, l56, y56, z56⟩, st56⟩ := X55.virtualBack hx (y := (⟨"java/util/Optional", "isPresent", "()Z"⟩ : MethodName)) (z := (⟨"java/util/Optional", "isPresent", "()Z"⟩ : MethodName)) hown (mvT hZ (hw _ (List.mem_of_getElem? (i := 122) rfl))) (mvT hZ (hw _ (List.mem_of_getElem? (i := 123) rfl))) (notFace_of_selects (args := #[]) (mvT hZ (hw _ (List.mem_of_getElem? (i := 125) rfl)))) (mvT hZ (hw _ (List.mem_of_getElem? (i := 125) rfl))) (mvT hZ (hw _ (List.mem_of_getElem? (i := 124) rfl))) (by decide) (backOf (W := 0) (rmOp_isPresent_n l Z a0 hw [] eA T42.heap n0 (Nat.le_trans Z0 (Nat.le_trans (Nat.le_trans (Nat.le_trans (Nat.le_trans (Nat.le_trans (Nat.le_trans (Nat.le_trans K1.1 K6.1) K12.1) K18.1) K21.1) K26.1) K34.1) K42.1)) G1 O2 P5 eA SE XE FE F43 F52) hZ (hw _ (List.mem_of_getElem? (i := 126) rfl)) (hw _ (List.mem_of_getElem? (i := 90) rfl)) (by decide) (by decide)) q56a q56c (g := (mkF m 159 #[.val (.int p1), .val (.int p2), .val (.int p3), .val (.int p4), .val (.int p5), .val (.ref x_1), .val w4, .val w10, .val w16, .val (.ref x_21)] [(.ref eA)])) rfl (by rw [hml]; rfl) (Steps.refl _) (argsL := []) (rest := []) (lenOf pd_15 rfl) rfl (by show 2 * 0 + _ ≤ _; exact Nat.le_of_eq rfl) (hb hby at_159) (fun _ _ => ⟨rfl, eh55, (by decide : 16 + 0 ≤ _), (by decide : 48 + 0 ≤ _)⟩)
        dsimp only [Pt.U, Pt.locs, Pt.cells, Pt.slots] at X56 l56 y56 z56 st56 hQ56
        have X56 : Stand p l e room_1 s m _ below meth c T56 L56 16 48 := own_reX X56 y56 z56
        obtain ⟨rfl, Nq56, eh56⟩ := hQ56
        have N56 := own_frApp N55 Nq56 l56
        refine Ends.go st56 ?_
        show Ends _ _ _ _ (T56.setTop (mkF m 162 #[.val (.int p1), .val (.int p2), .val (.int p3), .val (.int p4), .val (.int p5), .val (.ref x_1), .val w4, .val w10, .val w16, .val (.ref x_21)] [(.int (0 : Int32))]))
        refine Ends.step (fun t k => XS.ifNo X56.here hx rfl (hb hby at_162) rfl ((if0 _ _).trans (teq (by decide : ((0 : Int32) = (0 : Int32)))).2) k) ?_
        show Ends _ _ _ _ (T56.setTop (mkF m 165 #[.val (.int p1), .val (.int p2), .val (.int p3), .val (.int p4), .val (.int p5), .val (.ref x_1), .val w4, .val w10, .val w16, .val (.ref x_21)] []))
        refine Ends.step (fun t k => XS.aload X56.here hx rfl (hb hby at_165) rfl rfl k) ?_
        show Ends _ _ _ _ (T56.setTop (mkF m 167 #[.val (.int p1), .val (.int p2), .val (.int p3), .val (.int p4), .val (.int p5), .val (.ref x_1), .val w4, .val w10, .val w16, .val (.ref x_21)] [(.ref x_21)]))
        have F57 : Fld Z T42.heap x_21 "com/example/operatory/operatory/fhir/SearchValue$Alternative" "date" "Ljava/lang/String;" .null := (((f21_5.keep K26 nin0).keep K34 nin0).keep K42 nin0)
        obtain ⟨cq58, kq58, q58a, q58b, q58c⟩ := isOf hZ eh56 F48
        obtain ⟨_, _, ⟨T58, L58, k58, n58⟩, -, X58, ⟨Lc58, hQ58, l58, y58, z58⟩, st58⟩ := X56.virtualBack hx (y := (⟨"com/example/operatory/operatory/fhir/SearchValue$Alternative", "date", "()Ljava/util/Optional;"⟩ : MethodName)) (z := (⟨"com/example/operatory/operatory/fhir/SearchValue$Alternative", "date", "()Ljava/util/Optional;"⟩ : MethodName)) hown (mvT hZ (hw _ (List.mem_of_getElem? (i := 132) rfl))) (mvT hZ (hw _ (List.mem_of_getElem? (i := 133) rfl))) (notFace_of_selects (args := #[]) (mvT hZ (hw _ (List.mem_of_getElem? (i := 135) rfl)))) (mvT hZ (hw _ (List.mem_of_getElem? (i := 135) rfl))) (mvT hZ (hw _ (List.mem_of_getElem? (i := 134) rfl))) (by decide) (backOf (W := 0) (rmGn_date l Z a0 hw [] x_21 T42.heap n0 (Nat.le_trans Z0 (Nat.le_trans (Nat.le_trans (Nat.le_trans (Nat.le_trans (Nat.le_trans (Nat.le_trans (Nat.le_trans K1.1 K6.1) K12.1) K18.1) K21.1) K26.1) K34.1) K42.1)) G1 O2 P5 eA SE XE FE F43 F57) hZ (hw _ (List.mem_of_getElem? (i := 136) rfl)) (hw _ (List.mem_of_getElem? (i := 36) rfl)) (by decide) (by decide)) q58a q58c (g := (mkF m 167 #[.val (.int p1), .val (.int p2), .val (.int p3), .val (.int p4), .val (.int p5), .val (.ref x_1), .val w4, .val w10, .val w16, .val (.ref x_21)] [(.ref x_21)])) rfl (by rw [hml]; rfl) (Steps.refl _) (argsL := []) (rest := []) (lenOf pd_13 rfl) rfl (by show 2 * 0 + _ ≤ _; exact Nat.le_of_eq rfl) (hb hby at_167) (fun _ _ => ⟨rfl, eh56, (by decide : 16 + 0 ≤ _), (by decide : 48 + 0 ≤ _)⟩)
        dsimp only [Pt.U, Pt.locs, Pt.cells, Pt.slots] at X58 l58 y58 z58 st58 hQ58
        have X58 : Stand p l e room_1 s m _ below meth c T58 L58 16 48 := own_reX X58 y58 z58
        obtain ⟨rfl, Nq58, eh58⟩ := hQ58
        have N58 := own_frApp N56 Nq58 l58
        refine Ends.go st58 ?_
        show Ends _ _ _ _ (T58.setTop (mkF m 170 #[.val (.int p1), .val (.int p2), .val (.int p3), .val (.int p4), .val (.int p5), .val (.ref x_1), .val w4, .val w10, .val w16, .val (.ref x_21)] [(.ref eA)]))
        obtain ⟨cq59, kq59, q59a, q59b, q59c⟩ := isOf hZ eh58 F51
        obtain ⟨_, _, ⟨T59, L59, k59, n59⟩, -, X59, ⟨Lc59, hQ59, l59, y59, z59⟩, st59⟩ := X58.virtualBack hx (y := (⟨"java/util/Optional", "isPresent", "()Z"⟩ : MethodName)) (z := (⟨"java/util/Optional", "isPresent", "()Z"⟩ : MethodName)) hown (mvT hZ (hw _ (List.mem_of_getElem? (i := 122) rfl))) (mvT hZ (hw _ (List.mem_of_getElem? (i := 123) rfl))) (notFace_of_selects (args := #[]) (mvT hZ (hw _ (List.mem_of_getElem? (i := 125) rfl)))) (mvT hZ (hw _ (List.mem_of_getElem? (i := 125) rfl))) (mvT hZ (hw _ (List.mem_of_getElem? (i := 124) rfl))) (by decide) (backOf (W := 0) (rmOp_isPresent_n l Z a0 hw [] eA T42.heap n0 (Nat.le_trans Z0 (Nat.le_trans (Nat.le_trans (Nat.le_trans (Nat.le_trans (Nat.le_trans (Nat.le_trans (Nat.le_trans K1.1 K6.1) K12.1) K18.1) K21.1) K26.1) K34.1) K42.1)) G1 O2 P5 eA SE XE FE F43 F52) hZ (hw _ (List.mem_of_getElem? (i := 126) rfl)) (hw _ (List.mem_of_getElem? (i := 90) rfl)) (by decide) (by decide)) q59a q59c (g := (mkF m 170 #[.val (.int p1), .val (.int p2), .val (.int p3), .val (.int p4), .val (.int p5), .val (.ref x_1), .val w4, .val w10, .val w16, .val (.ref x_21)] [(.ref eA)])) rfl (by rw [hml]; rfl) (Steps.refl _) (argsL := []) (rest := []) (lenOf pd_15 rfl) rfl (by show 2 * 0 + _ ≤ _; exact Nat.le_of_eq rfl) (hb hby at_170) (fun _ _ => ⟨rfl, eh58, (by decide : 16 + 0 ≤ _), (by decide : 48 + 0 ≤ _)⟩)
        dsimp only [Pt.U, Pt.locs, Pt.cells, Pt.slots] at X59 l59 y59 z59 st59 hQ59
        have X59 : Stand p l e room_1 s m _ below meth c T59 L59 16 48 := own_reX X59 y59 z59
        obtain ⟨rfl, Nq59, eh59⟩ := hQ59
        have N59 := own_frApp N58 Nq59 l59
        refine Ends.go st59 ?_
        show Ends _ _ _ _ (T59.setTop (mkF m 173 #[.val (.int p1), .val (.int p2), .val (.int p3), .val (.int p4), .val (.int p5), .val (.ref x_1), .val w4, .val w10, .val w16, .val (.ref x_21)] [(.int (0 : Int32))]))
        refine Ends.step (fun t k => XS.ifNo X59.here hx rfl (hb hby at_173) rfl ((if0 _ _).trans (teq (by decide : ((0 : Int32) = (0 : Int32)))).2) k) ?_
        show Ends _ _ _ _ (T59.setTop (mkF m 176 #[.val (.int p1), .val (.int p2), .val (.int p3), .val (.int p4), .val (.int p5), .val (.ref x_1), .val w4, .val w10, .val w16, .val (.ref x_21)] []))
        refine Ends.step (fun t k => XS.aload X59.here hx rfl (hb hby at_176) rfl rfl k) ?_
        show Ends _ _ _ _ (T59.setTop (mkF m 178 #[.val (.int p1), .val (.int p2), .val (.int p3), .val (.int p4), .val (.int p5), .val (.ref x_1), .val w4, .val w10, .val w16, .val (.ref x_21)] [(.ref x_21)]))
        have F60 : Fld Z T42.heap x_21 "com/example/operatory/operatory/fhir/SearchValue$Alternative" "precision" "Lcom/example/operatory/operatory/fhir/SearchValue$Precision;" .null := (((f21_6.keep K26 nin0).keep K34 nin0).keep K42 nin0)
        obtain ⟨cq61, kq61, q61a, q61b, q61c⟩ := isOf hZ eh59 F48
        obtain ⟨_, _, ⟨T61, L61, k61, n61⟩, -, X61, ⟨Lc61, hQ61, l61, y61, z61⟩, st61⟩ := X59.virtualBack hx (y := (⟨"com/example/operatory/operatory/fhir/SearchValue$Alternative", "precision", "()Ljava/util/Optional;"⟩ : MethodName)) (z := (⟨"com/example/operatory/operatory/fhir/SearchValue$Alternative", "precision", "()Ljava/util/Optional;"⟩ : MethodName)) hown (mvT hZ (hw _ (List.mem_of_getElem? (i := 137) rfl))) (mvT hZ (hw _ (List.mem_of_getElem? (i := 138) rfl))) (notFace_of_selects (args := #[]) (mvT hZ (hw _ (List.mem_of_getElem? (i := 140) rfl)))) (mvT hZ (hw _ (List.mem_of_getElem? (i := 140) rfl))) (mvT hZ (hw _ (List.mem_of_getElem? (i := 139) rfl))) (by decide) (backOf (W := 0) (rmGn_precision l Z a0 hw [] x_21 T42.heap n0 (Nat.le_trans Z0 (Nat.le_trans (Nat.le_trans (Nat.le_trans (Nat.le_trans (Nat.le_trans (Nat.le_trans (Nat.le_trans K1.1 K6.1) K12.1) K18.1) K21.1) K26.1) K34.1) K42.1)) G1 O2 P5 eA SE XE FE F43 F60) hZ (hw _ (List.mem_of_getElem? (i := 141) rfl)) (hw _ (List.mem_of_getElem? (i := 36) rfl)) (by decide) (by decide)) q61a q61c (g := (mkF m 178 #[.val (.int p1), .val (.int p2), .val (.int p3), .val (.int p4), .val (.int p5), .val (.ref x_1), .val w4, .val w10, .val w16, .val (.ref x_21)] [(.ref x_21)])) rfl (by rw [hml]; rfl) (Steps.refl _) (argsL := []) (rest := []) (lenOf pd_13 rfl) rfl (by show 2 * 0 + _ ≤ _; exact Nat.le_of_eq rfl) (hb hby at_178) (fun _ _ => ⟨rfl, eh59, (by decide : 16 + 0 ≤ _), (by decide : 48 + 0 ≤ _)⟩)
        dsimp only [Pt.U, Pt.locs, Pt.cells, Pt.slots] at X61 l61 y61 z61 st61 hQ61
        have X61 : Stand p l e room_1 s m _ below meth c T61 L61 16 48 := own_reX X61 y61 z61
        obtain ⟨rfl, Nq61, eh61⟩ := hQ61
        have N61 := own_frApp N59 Nq61 l61
        refine Ends.go st61 ?_
        show Ends _ _ _ _ (T61.setTop (mkF m 181 #[.val (.int p1), .val (.int p2), .val (.int p3), .val (.int p4), .val (.int p5), .val (.ref x_1), .val w4, .val w10, .val w16, .val (.ref x_21)] [(.ref eA)]))
        obtain ⟨cq62, kq62, q62a, q62b, q62c⟩ := isOf hZ eh61 F51
        obtain ⟨_, _, ⟨T62, L62, k62, n62⟩, -, X62, ⟨Lc62, hQ62, l62, y62, z62⟩, st62⟩ := X61.virtualBack hx (y := (⟨"java/util/Optional", "isPresent", "()Z"⟩ : MethodName)) (z := (⟨"java/util/Optional", "isPresent", "()Z"⟩ : MethodName)) hown (mvT hZ (hw _ (List.mem_of_getElem? (i := 122) rfl))) (mvT hZ (hw _ (List.mem_of_getElem? (i := 123) rfl))) (notFace_of_selects (args := #[]) (mvT hZ (hw _ (List.mem_of_getElem? (i := 125) rfl)))) (mvT hZ (hw _ (List.mem_of_getElem? (i := 125) rfl))) (mvT hZ (hw _ (List.mem_of_getElem? (i := 124) rfl))) (by decide) (backOf (W := 0) (rmOp_isPresent_n l Z a0 hw [] eA T42.heap n0 (Nat.le_trans Z0 (Nat.le_trans (Nat.le_trans (Nat.le_trans (Nat.le_trans (Nat.le_trans (Nat.le_trans (Nat.le_trans K1.1 K6.1) K12.1) K18.1) K21.1) K26.1) K34.1) K42.1)) G1 O2 P5 eA SE XE FE F43 F52) hZ (hw _ (List.mem_of_getElem? (i := 126) rfl)) (hw _ (List.mem_of_getElem? (i := 90) rfl)) (by decide) (by decide)) q62a q62c (g := (mkF m 181 #[.val (.int p1), .val (.int p2), .val (.int p3), .val (.int p4), .val (.int p5), .val (.ref x_1), .val w4, .val w10, .val w16, .val (.ref x_21)] [(.ref eA)])) rfl (by rw [hml]; rfl) (Steps.refl _) (argsL := []) (rest := []) (lenOf pd_15 rfl) rfl (by show 2 * 0 + _ ≤ _; exact Nat.le_of_eq rfl) (hb hby at_181) (fun _ _ => ⟨rfl, eh61, (by decide : 16 + 0 ≤ _), (by decide : 48 + 0 ≤ _)⟩)
        dsimp only [Pt.U, Pt.locs, Pt.cells, Pt.slots] at X62 l62 y62 z62 st62 hQ62
        have X62 : Stand p l e room_1 s m _ below meth c T62 L62 16 48 := own_reX X62 y62 z62
        obtain ⟨rfl, Nq62, eh62⟩ := hQ62
        have N62 := own_frApp N61 Nq62 l62
        refine Ends.go st62 ?_
        show Ends _ _ _ _ (T62.setTop (mkF m 184 #[.val (.int p1), .val (.int p2), .val (.int p3), .val (.int p4), .val (.int p5), .val (.ref x_1), .val w4, .val w10, .val w16, .val (.ref x_21)] [(.int (0 : Int32))]))
        refine Ends.step (fun t k => XS.ifNo X62.here hx rfl (hb hby at_184) rfl ((if0 _ _).trans (teq (by decide : ((0 : Int32) = (0 : Int32)))).2) k) ?_
        show Ends _ _ _ _ (T62.setTop (mkF m 187 #[.val (.int p1), .val (.int p2), .val (.int p3), .val (.int p4), .val (.int p5), .val (.ref x_1), .val w4, .val w10, .val w16, .val (.ref x_21)] []))
        refine Ends.step (fun t k => XS.aload X62.here hx rfl (hb hby at_187) rfl rfl k) ?_
        show Ends _ _ _ _ (T62.setTop (mkF m 189 #[.val (.int p1), .val (.int p2), .val (.int p3), .val (.int p4), .val (.int p5), .val (.ref x_1), .val w4, .val w10, .val w16, .val (.ref x_21)] [(.ref x_21)]))
        have F63 : Fld Z T42.heap x_21 "com/example/operatory/operatory/fhir/SearchValue$Alternative" "system" "Ljava/lang/String;" .null := (((f21_7.keep K26 nin0).keep K34 nin0).keep K42 nin0)
        obtain ⟨cq64, kq64, q64a, q64b, q64c⟩ := isOf hZ eh62 F48
        obtain ⟨_, _, ⟨T64, L64, k64, n64⟩, -, X64, ⟨Lc64, hQ64, l64, y64, z64⟩, st64⟩ := X62.virtualBack hx (y := (⟨"com/example/operatory/operatory/fhir/SearchValue$Alternative", "system", "()Ljava/util/Optional;"⟩ : MethodName)) (z := (⟨"com/example/operatory/operatory/fhir/SearchValue$Alternative", "system", "()Ljava/util/Optional;"⟩ : MethodName)) hown (mvT hZ (hw _ (List.mem_of_getElem? (i := 142) rfl))) (mvT hZ (hw _ (List.mem_of_getElem? (i := 143) rfl))) (notFace_of_selects (args := #[]) (mvT hZ (hw _ (List.mem_of_getElem? (i := 145) rfl)))) (mvT hZ (hw _ (List.mem_of_getElem? (i := 145) rfl))) (mvT hZ (hw _ (List.mem_of_getElem? (i := 144) rfl))) (by decide) (backOf (W := 0) (rmGn_system l Z a0 hw [] x_21 T42.heap n0 (Nat.le_trans Z0 (Nat.le_trans (Nat.le_trans (Nat.le_trans (Nat.le_trans (Nat.le_trans (Nat.le_trans (Nat.le_trans K1.1 K6.1) K12.1) K18.1) K21.1) K26.1) K34.1) K42.1)) G1 O2 P5 eA SE XE FE F43 F63) hZ (hw _ (List.mem_of_getElem? (i := 146) rfl)) (hw _ (List.mem_of_getElem? (i := 36) rfl)) (by decide) (by decide)) q64a q64c (g := (mkF m 189 #[.val (.int p1), .val (.int p2), .val (.int p3), .val (.int p4), .val (.int p5), .val (.ref x_1), .val w4, .val w10, .val w16, .val (.ref x_21)] [(.ref x_21)])) rfl (by rw [hml]; rfl) (Steps.refl _) (argsL := []) (rest := []) (lenOf pd_13 rfl) rfl (by show 2 * 0 + _ ≤ _; exact Nat.le_of_eq rfl) (hb hby at_189) (fun _ _ => ⟨rfl, eh62, (by decide : 16 + 0 ≤ _), (by decide : 48 + 0 ≤ _)⟩)
        dsimp only [Pt.U, Pt.locs, Pt.cells, Pt.slots] at X64 l64 y64 z64 st64 hQ64
        have X64 : Stand p l e room_1 s m _ below meth c T64 L64 16 48 := own_reX X64 y64 z64
        obtain ⟨rfl, Nq64, eh64⟩ := hQ64
        have N64 := own_frApp N62 Nq64 l64
        refine Ends.go st64 ?_
        show Ends _ _ _ _ (T64.setTop (mkF m 192 #[.val (.int p1), .val (.int p2), .val (.int p3), .val (.int p4), .val (.int p5), .val (.ref x_1), .val w4, .val w10, .val w16, .val (.ref x_21)] [(.ref eA)]))
        obtain ⟨cq65, kq65, q65a, q65b, q65c⟩ := isOf hZ eh64 F51
        obtain ⟨_, _, ⟨T65, L65, k65, n65⟩, -, X65, ⟨Lc65, hQ65, l65, y65, z65⟩, st65⟩ := X64.virtualBack hx (y := (⟨"java/util/Optional", "isPresent", "()Z"⟩ : MethodName)) (z := (⟨"java/util/Optional", "isPresent", "()Z"⟩ : MethodName)) hown (mvT hZ (hw _ (List.mem_of_getElem? (i := 122) rfl))) (mvT hZ (hw _ (List.mem_of_getElem? (i := 123) rfl))) (notFace_of_selects (args := #[]) (mvT hZ (hw _ (List.mem_of_getElem? (i := 125) rfl)))) (mvT hZ (hw _ (List.mem_of_getElem? (i := 125) rfl))) (mvT hZ (hw _ (List.mem_of_getElem? (i := 124) rfl))) (by decide) (backOf (W := 0) (rmOp_isPresent_n l Z a0 hw [] eA T42.heap n0 (Nat.le_trans Z0 (Nat.le_trans (Nat.le_trans (Nat.le_trans (Nat.le_trans (Nat.le_trans (Nat.le_trans (Nat.le_trans K1.1 K6.1) K12.1) K18.1) K21.1) K26.1) K34.1) K42.1)) G1 O2 P5 eA SE XE FE F43 F52) hZ (hw _ (List.mem_of_getElem? (i := 126) rfl)) (hw _ (List.mem_of_getElem? (i := 90) rfl)) (by decide) (by decide)) q65a q65c (g := (mkF m 192 #[.val (.int p1), .val (.int p2), .val (.int p3), .val (.int p4), .val (.int p5), .val (.ref x_1), .val w4, .val w10, .val w16, .val (.ref x_21)] [(.ref eA)])) rfl (by rw [hml]; rfl) (Steps.refl _) (argsL := []) (rest := []) (lenOf pd_15 rfl) rfl (by show 2 * 0 + _ ≤ _; exact Nat.le_of_eq rfl) (hb hby at_192) (fun _ _ => ⟨rfl, eh64, (by decide : 16 + 0 ≤ _), (by decide : 48 + 0 ≤ _)⟩)
        dsimp only [Pt.U, Pt.locs, Pt.cells, Pt.slots] at X65 l65 y65 z65 st65 hQ65
        have X65 : Stand p l e room_1 s m _ below meth c T65 L65 16 48 := own_reX X65 y65 z65
        obtain ⟨rfl, Nq65, eh65⟩ := hQ65
        have N65 := own_frApp N64 Nq65 l65
        refine Ends.go st65 ?_
        show Ends _ _ _ _ (T65.setTop (mkF m 195 #[.val (.int p1), .val (.int p2), .val (.int p3), .val (.int p4), .val (.int p5), .val (.ref x_1), .val w4, .val w10, .val w16, .val (.ref x_21)] [(.int (0 : Int32))]))
        refine Ends.step (fun t k => XS.ifNo X65.here hx rfl (hb hby at_195) rfl ((if0 _ _).trans (teq (by decide : ((0 : Int32) = (0 : Int32)))).2) k) ?_
        show Ends _ _ _ _ (T65.setTop (mkF m 198 #[.val (.int p1), .val (.int p2), .val (.int p3), .val (.int p4), .val (.int p5), .val (.ref x_1), .val w4, .val w10, .val w16, .val (.ref x_21)] []))
        refine Ends.step (fun t k => XS.aload X65.here hx rfl (hb hby at_198) rfl rfl k) ?_
        show Ends _ _ _ _ (T65.setTop (mkF m 200 #[.val (.int p1), .val (.int p2), .val (.int p3), .val (.int p4), .val (.int p5), .val (.ref x_1), .val w4, .val w10, .val w16, .val (.ref x_21)] [(.ref x_21)]))
        have F66 : Fld Z T42.heap x_21 "com/example/operatory/operatory/fhir/SearchValue$Alternative" "code" "Ljava/lang/String;" .null := (((f21_9.keep K26 nin0).keep K34 nin0).keep K42 nin0)
        obtain ⟨cq67, kq67, q67a, q67b, q67c⟩ := isOf hZ eh65 F48
        obtain ⟨_, _, ⟨T67, L67, k67, n67⟩, -, X67, ⟨Lc67, hQ67, l67, y67, z67⟩, st67⟩ := X65.virtualBack hx (y := (⟨"com/example/operatory/operatory/fhir/SearchValue$Alternative", "code", "()Ljava/util/Optional;"⟩ : MethodName)) (z := (⟨"com/example/operatory/operatory/fhir/SearchValue$Alternative", "code", "()Ljava/util/Optional;"⟩ : MethodName)) hown (mvT hZ (hw _ (List.mem_of_getElem? (i := 147) rfl))) (mvT hZ (hw _ (List.mem_of_getElem? (i := 148) rfl))) (notFace_of_selects (args := #[]) (mvT hZ (hw _ (List.mem_of_getElem? (i := 150) rfl)))) (mvT hZ (hw _ (List.mem_of_getElem? (i := 150) rfl))) (mvT hZ (hw _ (List.mem_of_getElem? (i := 149) rfl))) (by decide) (backOf (W := 0) (rmGn_code l Z a0 hw [] x_21 T42.heap n0 (Nat.le_trans Z0 (Nat.le_trans (Nat.le_trans (Nat.le_trans (Nat.le_trans (Nat.le_trans (Nat.le_trans (Nat.le_trans K1.1 K6.1) K12.1) K18.1) K21.1) K26.1) K34.1) K42.1)) G1 O2 P5 eA SE XE FE F43 F66) hZ (hw _ (List.mem_of_getElem? (i := 151) rfl)) (hw _ (List.mem_of_getElem? (i := 36) rfl)) (by decide) (by decide)) q67a q67c (g := (mkF m 200 #[.val (.int p1), .val (.int p2), .val (.int p3), .val (.int p4), .val (.int p5), .val (.ref x_1), .val w4, .val w10, .val w16, .val (.ref x_21)] [(.ref x_21)])) rfl (by rw [hml]; rfl) (Steps.refl _) (argsL := []) (rest := []) (lenOf pd_13 rfl) rfl (by show 2 * 0 + _ ≤ _; exact Nat.le_of_eq rfl) (hb hby at_200) (fun _ _ => ⟨rfl, eh65, (by decide : 16 + 0 ≤ _), (by decide : 48 + 0 ≤ _)⟩)
        dsimp only [Pt.U, Pt.locs, Pt.cells, Pt.slots] at X67 l67 y67 z67 st67 hQ67
        have X67 : Stand p l e room_1 s m _ below meth c T67 L67 16 48 := own_reX X67 y67 z67
        obtain ⟨rfl, Nq67, eh67⟩ := hQ67
        have N67 := own_frApp N65 Nq67 l67
        refine Ends.go st67 ?_
        show Ends _ _ _ _ (T67.setTop (mkF m 203 #[.val (.int p1), .val (.int p2), .val (.int p3), .val (.int p4), .val (.int p5), .val (.ref x_1), .val w4, .val w10, .val w16, .val (.ref x_21)] [(.ref eA)]))
        obtain ⟨cq68, kq68, q68a, q68b, q68c⟩ := isOf hZ eh67 F51
        obtain ⟨_, _, ⟨T68, L68, k68, n68⟩, -, X68, ⟨Lc68, hQ68, l68, y68, z68⟩, st68⟩ := X67.virtualBack hx (y := (⟨"java/util/Optional", "isPresent", "()Z"⟩ : MethodName)) (z := (⟨"java/util/Optional", "isPresent", "()Z"⟩ : MethodName)) hown (mvT hZ (hw _ (List.mem_of_getElem? (i := 122) rfl))) (mvT hZ (hw _ (List.mem_of_getElem? (i := 123) rfl))) (notFace_of_selects (args := #[]) (mvT hZ (hw _ (List.mem_of_getElem? (i := 125) rfl)))) (mvT hZ (hw _ (List.mem_of_getElem? (i := 125) rfl))) (mvT hZ (hw _ (List.mem_of_getElem? (i := 124) rfl))) (by decide) (backOf (W := 0) (rmOp_isPresent_n l Z a0 hw [] eA T42.heap n0 (Nat.le_trans Z0 (Nat.le_trans (Nat.le_trans (Nat.le_trans (Nat.le_trans (Nat.le_trans (Nat.le_trans (Nat.le_trans K1.1 K6.1) K12.1) K18.1) K21.1) K26.1) K34.1) K42.1)) G1 O2 P5 eA SE XE FE F43 F52) hZ (hw _ (List.mem_of_getElem? (i := 126) rfl)) (hw _ (List.mem_of_getElem? (i := 90) rfl)) (by decide) (by decide)) q68a q68c (g := (mkF m 203 #[.val (.int p1), .val (.int p2), .val (.int p3), .val (.int p4), .val (.int p5), .val (.ref x_1), .val w4, .val w10, .val w16, .val (.ref x_21)] [(.ref eA)])) rfl (by rw [hml]; rfl) (Steps.refl _) (argsL := []) (rest := []) (lenOf pd_15 rfl) rfl (by show 2 * 0 + _ ≤ _; exact Nat.le_of_eq rfl) (hb hby at_203) (fun _ _ => ⟨rfl, eh67, (by decide : 16 + 0 ≤ _), (by decide : 48 + 0 ≤ _)⟩)
        dsimp only [Pt.U, Pt.locs, Pt.cells, Pt.slots] at X68 l68 y68 z68 st68 hQ68
        have X68 : Stand p l e room_1 s m _ below meth c T68 L68 16 48 := own_reX X68 y68 z68
        obtain ⟨rfl, Nq68, eh68⟩ := hQ68
        have N68 := own_frApp N67 Nq68 l68
        refine Ends.go st68 ?_
        show Ends _ _ _ _ (T68.setTop (mkF m 206 #[.val (.int p1), .val (.int p2), .val (.int p3), .val (.int p4), .val (.int p5), .val (.ref x_1), .val w4, .val w10, .val w16, .val (.ref x_21)] [(.int (0 : Int32))]))
        refine Ends.step (fun t k => XS.ifNo X68.here hx rfl (hb hby at_206) rfl ((if0 _ _).trans (teq (by decide : ((0 : Int32) = (0 : Int32)))).2) k) ?_
        show Ends _ _ _ _ (T68.setTop (mkF m 209 #[.val (.int p1), .val (.int p2), .val (.int p3), .val (.int p4), .val (.int p5), .val (.ref x_1), .val w4, .val w10, .val w16, .val (.ref x_21)] []))
        refine Ends.step (fun t k => XS.aload X68.here hx rfl (hb hby at_209) rfl rfl k) ?_
        show Ends _ _ _ _ (T68.setTop (mkF m 211 #[.val (.int p1), .val (.int p2), .val (.int p3), .val (.int p4), .val (.int p5), .val (.ref x_1), .val w4, .val w10, .val w16, .val (.ref x_21)] [(.ref x_21)]))
        have F69 : Fld Z T42.heap x_21 "com/example/operatory/operatory/fhir/SearchValue$Alternative" "value" "Ljava/lang/String;" .null := (((f21_10.keep K26 nin0).keep K34 nin0).keep K42 nin0)
        obtain ⟨cq70, kq70, q70a, q70b, q70c⟩ := isOf hZ eh68 F48
        obtain ⟨_, _, ⟨T70, L70, k70, n70⟩, -, X70, ⟨Lc70, hQ70, l70, y70, z70⟩, st70⟩ := X68.virtualBack hx (y := (⟨"com/example/operatory/operatory/fhir/SearchValue$Alternative", "value", "()Ljava/util/Optional;"⟩ : MethodName)) (z := (⟨"com/example/operatory/operatory/fhir/SearchValue$Alternative", "value", "()Ljava/util/Optional;"⟩ : MethodName)) hown (mvT hZ (hw _ (List.mem_of_getElem? (i := 152) rfl))) (mvT hZ (hw _ (List.mem_of_getElem? (i := 153) rfl))) (notFace_of_selects (args := #[]) (mvT hZ (hw _ (List.mem_of_getElem? (i := 155) rfl)))) (mvT hZ (hw _ (List.mem_of_getElem? (i := 155) rfl))) (mvT hZ (hw _ (List.mem_of_getElem? (i := 154) rfl))) (by decide) (backOf (W := 0) (rmGn_value l Z a0 hw [] x_21 T42.heap n0 (Nat.le_trans Z0 (Nat.le_trans (Nat.le_trans (Nat.le_trans (Nat.le_trans (Nat.le_trans (Nat.le_trans (Nat.le_trans K1.1 K6.1) K12.1) K18.1) K21.1) K26.1) K34.1) K42.1)) G1 O2 P5 eA SE XE FE F43 F69) hZ (hw _ (List.mem_of_getElem? (i := 156) rfl)) (hw _ (List.mem_of_getElem? (i := 36) rfl)) (by decide) (by decide)) q70a q70c (g := (mkF m 211 #[.val (.int p1), .val (.int p2), .val (.int p3), .val (.int p4), .val (.int p5), .val (.ref x_1), .val w4, .val w10, .val w16, .val (.ref x_21)] [(.ref x_21)])) rfl (by rw [hml]; rfl) (Steps.refl _) (argsL := []) (rest := []) (lenOf pd_13 rfl) rfl (by show 2 * 0 + _ ≤ _; exact Nat.le_of_eq rfl) (hb hby at_211) (fun _ _ => ⟨rfl, eh68, (by decide : 16 + 0 ≤ _), (by decide : 48 + 0 ≤ _)⟩)
        dsimp only [Pt.U, Pt.locs, Pt.cells, Pt.slots] at X70 l70 y70 z70 st70 hQ70
        have X70 : Stand p l e room_1 s m _ below meth c T70 L70 16 48 := own_reX X70 y70 z70
        obtain ⟨rfl, Nq70, eh70⟩ := hQ70
        have N70 := own_frApp N68 Nq70 l70
        refine Ends.go st70 ?_
        show Ends _ _ _ _ (T70.setTop (mkF m 214 #[.val (.int p1), .val (.int p2), .val (.int p3), .val (.int p4), .val (.int p5), .val (.ref x_1), .val w4, .val w10, .val w16, .val (.ref x_21)] [(.ref eA)]))
        obtain ⟨cq71, kq71, q71a, q71b, q71c⟩ := isOf hZ eh70 F51
        obtain ⟨_, _, ⟨T71, L71, k71, n71⟩, -, X71, ⟨Lc71, hQ71, l71, y71, z71⟩, st71⟩ := X70.virtualBack hx (y := (⟨"java/util/Optional", "isPresent", "()Z"⟩ : MethodName)) (z := (⟨"java/util/Optional", "isPresent", "()Z"⟩ : MethodName)) hown (mvT hZ (hw _ (List.mem_of_getElem? (i := 122) rfl))) (mvT hZ (hw _ (List.mem_of_getElem? (i := 123) rfl))) (notFace_of_selects (args := #[]) (mvT hZ (hw _ (List.mem_of_getElem? (i := 125) rfl)))) (mvT hZ (hw _ (List.mem_of_getElem? (i := 125) rfl))) (mvT hZ (hw _ (List.mem_of_getElem? (i := 124) rfl))) (by decide) (backOf (W := 0) (rmOp_isPresent_n l Z a0 hw [] eA T42.heap n0 (Nat.le_trans Z0 (Nat.le_trans (Nat.le_trans (Nat.le_trans (Nat.le_trans (Nat.le_trans (Nat.le_trans (Nat.le_trans K1.1 K6.1) K12.1) K18.1) K21.1) K26.1) K34.1) K42.1)) G1 O2 P5 eA SE XE FE F43 F52) hZ (hw _ (List.mem_of_getElem? (i := 126) rfl)) (hw _ (List.mem_of_getElem? (i := 90) rfl)) (by decide) (by decide)) q71a q71c (g := (mkF m 214 #[.val (.int p1), .val (.int p2), .val (.int p3), .val (.int p4), .val (.int p5), .val (.ref x_1), .val w4, .val w10, .val w16, .val (.ref x_21)] [(.ref eA)])) rfl (by rw [hml]; rfl) (Steps.refl _) (argsL := []) (rest := []) (lenOf pd_15 rfl) rfl (by show 2 * 0 + _ ≤ _; exact Nat.le_of_eq rfl) (hb hby at_214) (fun _ _ => ⟨rfl, eh70, (by decide : 16 + 0 ≤ _), (by decide : 48 + 0 ≤ _)⟩)
        dsimp only [Pt.U, Pt.locs, Pt.cells, Pt.slots] at X71 l71 y71 z71 st71 hQ71
        have X71 : Stand p l e room_1 s m _ below meth c T71 L71 16 48 := own_reX X71 y71 z71
        obtain ⟨rfl, Nq71, eh71⟩ := hQ71
        have N71 := own_frApp N70 Nq71 l71
        refine Ends.go st71 ?_
        show Ends _ _ _ _ (T71.setTop (mkF m 217 #[.val (.int p1), .val (.int p2), .val (.int p3), .val (.int p4), .val (.int p5), .val (.ref x_1), .val w4, .val w10, .val w16, .val (.ref x_21)] [(.int (0 : Int32))]))
        refine Ends.step (fun t k => XS.ifNo X71.here hx rfl (hb hby at_217) rfl ((if0 _ _).trans (teq (by decide : ((0 : Int32) = (0 : Int32)))).2) k) ?_
        show Ends _ _ _ _ (T71.setTop (mkF m 220 #[.val (.int p1), .val (.int p2), .val (.int p3), .val (.int p4), .val (.int p5), .val (.ref x_1), .val w4, .val w10, .val w16, .val (.ref x_21)] []))
        refine Ends.step (fun t k => XS.aload X71.here hx rfl (hb hby at_220) rfl rfl k) ?_
        show Ends _ _ _ _ (T71.setTop (mkF m 222 #[.val (.int p1), .val (.int p2), .val (.int p3), .val (.int p4), .val (.int p5), .val (.ref x_1), .val w4, .val w10, .val w16, .val (.ref x_21)] [(.ref x_21)]))
        have F72 : Fld Z T42.heap x_21 "com/example/operatory/operatory/fhir/SearchValue$Alternative" "missing" "Ljava/lang/Boolean;" .null := (((f21_14.keep K26 nin0).keep K34 nin0).keep K42 nin0)
        obtain ⟨cq73, kq73, q73a, q73b, q73c⟩ := isOf hZ eh71 F48
        obtain ⟨_, _, ⟨T73, L73, k73, n73⟩, -, X73, ⟨Lc73, hQ73, l73, y73, z73⟩, st73⟩ := X71.virtualBack hx (y := (⟨"com/example/operatory/operatory/fhir/SearchValue$Alternative", "missing", "()Ljava/util/Optional;"⟩ : MethodName)) (z := (⟨"com/example/operatory/operatory/fhir/SearchValue$Alternative", "missing", "()Ljava/util/Optional;"⟩ : MethodName)) hown (mvT hZ (hw _ (List.mem_of_getElem? (i := 157) rfl))) (mvT hZ (hw _ (List.mem_of_getElem? (i := 158) rfl))) (notFace_of_selects (args := #[]) (mvT hZ (hw _ (List.mem_of_getElem? (i := 160) rfl)))) (mvT hZ (hw _ (List.mem_of_getElem? (i := 160) rfl))) (mvT hZ (hw _ (List.mem_of_getElem? (i := 159) rfl))) (by decide) (backOf (W := 0) (rmGn_missing l Z a0 hw [] x_21 T42.heap n0 (Nat.le_trans Z0 (Nat.le_trans (Nat.le_trans (Nat.le_trans (Nat.le_trans (Nat.le_trans (Nat.le_trans (Nat.le_trans K1.1 K6.1) K12.1) K18.1) K21.1) K26.1) K34.1) K42.1)) G1 O2 P5 eA SE XE FE F43 F72) hZ (hw _ (List.mem_of_getElem? (i := 161) rfl)) (hw _ (List.mem_of_getElem? (i := 36) rfl)) (by decide) (by decide)) q73a q73c (g := (mkF m 222 #[.val (.int p1), .val (.int p2), .val (.int p3), .val (.int p4), .val (.int p5), .val (.ref x_1), .val w4, .val w10, .val w16, .val (.ref x_21)] [(.ref x_21)])) rfl (by rw [hml]; rfl) (Steps.refl _) (argsL := []) (rest := []) (lenOf pd_13 rfl) rfl (by show 2 * 0 + _ ≤ _; exact Nat.le_of_eq rfl) (hb hby at_222) (fun _ _ => ⟨rfl, eh71, (by decide : 16 + 0 ≤ _), (by decide : 48 + 0 ≤ _)⟩)
        dsimp only [Pt.U, Pt.locs, Pt.cells, Pt.slots] at X73 l73 y73 z73 st73 hQ73
        have X73 : Stand p l e room_1 s m _ below meth c T73 L73 16 48 := own_reX X73 y73 z73
        obtain ⟨rfl, Nq73, eh73⟩ := hQ73
        have N73 := own_frApp N71 Nq73 l73
        refine Ends.go st73 ?_
        show Ends _ _ _ _ (T73.setTop (mkF m 225 #[.val (.int p1), .val (.int p2), .val (.int p3), .val (.int p4), .val (.int p5), .val (.ref x_1), .val w4, .val w10, .val w16, .val (.ref x_21)] [(.ref eA)]))
        obtain ⟨cq74, kq74, q74a, q74b, q74c⟩ := isOf hZ eh73 F51
        obtain ⟨_, _, ⟨T74, L74, k74, n74⟩, -, X74, ⟨Lc74, hQ74, l74, y74, z74⟩, st74⟩ := X73.virtualBack hx (y := (⟨"java/util/Optional", "isPresent", "()Z"⟩ : MethodName)) (z := (⟨"java/util/Optional", "isPresent", "()Z"⟩ : MethodName)) hown (mvT hZ (hw _ (List.mem_of_getElem? (i := 122) rfl))) (mvT hZ (hw _ (List.mem_of_getElem? (i := 123) rfl))) (notFace_of_selects (args := #[]) (mvT hZ (hw _ (List.mem_of_getElem? (i := 125) rfl)))) (mvT hZ (hw _ (List.mem_of_getElem? (i := 125) rfl))) (mvT hZ (hw _ (List.mem_of_getElem? (i := 124) rfl))) (by decide) (backOf (W := 0) (rmOp_isPresent_n l Z a0 hw [] eA T42.heap n0 (Nat.le_trans Z0 (Nat.le_trans (Nat.le_trans (Nat.le_trans (Nat.le_trans (Nat.le_trans (Nat.le_trans (Nat.le_trans K1.1 K6.1) K12.1) K18.1) K21.1) K26.1) K34.1) K42.1)) G1 O2 P5 eA SE XE FE F43 F52) hZ (hw _ (List.mem_of_getElem? (i := 126) rfl)) (hw _ (List.mem_of_getElem? (i := 90) rfl)) (by decide) (by decide)) q74a q74c (g := (mkF m 225 #[.val (.int p1), .val (.int p2), .val (.int p3), .val (.int p4), .val (.int p5), .val (.ref x_1), .val w4, .val w10, .val w16, .val (.ref x_21)] [(.ref eA)])) rfl (by rw [hml]; rfl) (Steps.refl _) (argsL := []) (rest := []) (lenOf pd_15 rfl) rfl (by show 2 * 0 + _ ≤ _; exact Nat.le_of_eq rfl) (hb hby at_225) (fun _ _ => ⟨rfl, eh73, (by decide : 16 + 0 ≤ _), (by decide : 48 + 0 ≤ _)⟩)
        dsimp only [Pt.U, Pt.locs, Pt.cells, Pt.slots] at X74 l74 y74 z74 st74 hQ74
        have X74 : Stand p l e room_1 s m _ below meth c T74 L74 16 48 := own_reX X74 y74 z74
        obtain ⟨rfl, Nq74, eh74⟩ := hQ74
        have N74 := own_frApp N73 Nq74 l74
        refine Ends.go st74 ?_
        show Ends _ _ _ _ (T74.setTop (mkF m 228 #[.val (.int p1), .val (.int p2), .val (.int p3), .val (.int p4), .val (.int p5), .val (.ref x_1), .val w4, .val w10, .val w16, .val (.ref x_21)] [(.int (0 : Int32))]))
        refine Ends.step (fun t k => XS.ifNo X74.here hx rfl (hb hby at_228) rfl ((if0 _ _).trans (teq (by decide : ((0 : Int32) = (0 : Int32)))).2) k) ?_
        show Ends _ _ _ _ (T74.setTop (mkF m 231 #[.val (.int p1), .val (.int p2), .val (.int p3), .val (.int p4), .val (.int p5), .val (.ref x_1), .val w4, .val w10, .val w16, .val (.ref x_21)] []))
        refine Ends.step (fun t k => XS.aload X74.here hx rfl (hb hby at_231) rfl rfl k) ?_
        show Ends _ _ _ _ (T74.setTop (mkF m 233 #[.val (.int p1), .val (.int p2), .val (.int p3), .val (.int p4), .val (.int p5), .val (.ref x_1), .val w4, .val w10, .val w16, .val (.ref x_21)] [(.ref x_21)]))
        have F75 : Fld Z T42.heap x_21 "com/example/operatory/operatory/fhir/SearchValue$Alternative" "noSystem" "Z" (.int (0 : Int32)) := (((f21_8.keep K26 nin0).keep K34 nin0).keep K42 nin0)
        obtain ⟨cq76, kq76, q76a, q76b, q76c⟩ := isOf hZ eh74 F48
        obtain ⟨_, _, ⟨T76, L76, k76, n76⟩, -, X76, ⟨Lc76, hQ76, l76, y76, z76⟩, st76⟩ := X74.virtualBack hx (y := (⟨"com/example/operatory/operatory/fhir/SearchValue$Alternative", "noSystem", "()Z"⟩ : MethodName)) (z := (⟨"com/example/operatory/operatory/fhir/SearchValue$Alternative", "noSystem", "()Z"⟩ : MethodName)) hown (mvT hZ (hw _ (List.mem_of_getElem? (i := 162) rfl))) (mvT hZ (hw _ (List.mem_of_getElem? (i := 163) rfl))) (notFace_of_selects (args := #[]) (mvT hZ (hw _ (List.mem_of_getElem? (i := 165) rfl)))) (mvT hZ (hw _ (List.mem_of_getElem? (i := 165) rfl))) (mvT hZ (hw _ (List.mem_of_getElem? (i := 164) rfl))) (by decide) (backOf (W := 0) (rmNs l Z a0 hw [] x_21 T42.heap n0 (Nat.le_trans Z0 (Nat.le_trans (Nat.le_trans (Nat.le_trans (Nat.le_trans (Nat.le_trans (Nat.le_trans (Nat.le_trans K1.1 K6.1) K12.1) K18.1) K21.1) K26.1) K34.1) K42.1)) G1 O2 P5 eA SE XE FE F43 F75) hZ (hw _ (List.mem_of_getElem? (i := 166) rfl)) (hw _ (List.mem_of_getElem? (i := 36) rfl)) (by decide) (by decide)) q76a q76c (g := (mkF m 233 #[.val (.int p1), .val (.int p2), .val (.int p3), .val (.int p4), .val (.int p5), .val (.ref x_1), .val w4, .val w10, .val w16, .val (.ref x_21)] [(.ref x_21)])) rfl (by rw [hml]; rfl) (Steps.refl _) (argsL := []) (rest := []) (lenOf pd_15 rfl) rfl (by show 2 * 0 + _ ≤ _; exact Nat.le_of_eq rfl) (hb hby at_233) (fun _ _ => ⟨rfl, eh74, (by decide : 16 + 0 ≤ _), (by decide : 48 + 0 ≤ _)⟩)
        dsimp only [Pt.U, Pt.locs, Pt.cells, Pt.slots] at X76 l76 y76 z76 st76 hQ76
        have X76 : Stand p l e room_1 s m _ below meth c T76 L76 16 48 := own_reX X76 y76 z76
        obtain ⟨rfl, Nq76, eh76⟩ := hQ76
        have N76 := own_frApp N74 Nq76 l76
        refine Ends.go st76 ?_
        show Ends _ _ _ _ (T76.setTop (mkF m 236 #[.val (.int p1), .val (.int p2), .val (.int p3), .val (.int p4), .val (.int p5), .val (.ref x_1), .val w4, .val w10, .val w16, .val (.ref x_21)] [(.int (0 : Int32))]))
        refine Ends.step (fun t k => XS.ifNo X76.here hx rfl (hb hby at_236) rfl ((if0 _ _).trans (teq (by decide : ((0 : Int32) = (0 : Int32)))).2) k) ?_
        show Ends _ _ _ _ (T76.setTop (mkF m 239 #[.val (.int p1), .val (.int p2), .val (.int p3), .val (.int p4), .val (.int p5), .val (.ref x_1), .val w4, .val w10, .val w16, .val (.ref x_21)] []))
        refine Ends.step (fun t k => XS.iconst X76.here hx rfl (hb hby at_239) k) ?_
        show Ends _ _ _ _ (T76.setTop (mkF m 240 #[.val (.int p1), .val (.int p2), .val (.int p3), .val (.int p4), .val (.int p5), .val (.ref x_1), .val w4, .val w10, .val w16, .val (.ref x_21)] [(.int (1 : Int32))]))
        refine Ends.step (fun t k => XS.goto X76.here hx rfl (pc0 := 240) (pc' := 244) rfl (hb hby at_240) (by decide) (by decide) k) ?_
        show Ends _ _ _ _ (T76.setTop (mkF m 244 #[.val (.int p1), .val (.int p2), .val (.int p3), .val (.int p4), .val (.int p5), .val (.ref x_1), .val w4, .val w10, .val w16, .val (.ref x_21)] [(.int (1 : Int32))]))
        exact own_finI X76 hx hlk (t := .boolean) Bd.returns (by simp) rfl (hb hby at_244) eh76 ⟨rfl, N76, (((((((((Keep.refl h0 []).trans K1 all0).trans K6 all0).trans K12 all0).trans K18 all0).trans K21 all0).trans K26 all0).trans K34 all0).trans K42 all0)⟩ (by decide) (by decide)
      by_cases c77 : (p5 &&& (4 : Int32)) = (0 : Int32)
      · refine Ends.step (fun t k => XS.ifYes X12.here hx rfl (pc0 := 44) (pc' := 51) rfl (hb hby at_44) rfl ((if0 _ _).trans (teq c77).1) (by decide) (by decide) k) ?_
        show Ends _ _ _ _ (T12.setTop (mkF m 51 #[.val (.int p1), .val (.int p2), .val (.int p3), .val (.int p4), .val (.int p5), .val (.ref x_1), .val w4, .val w10, .unset, .unset] []))
        refine Ends.step (fun t k => XS.iloadN X12.here hx rfl (hb hby at_51) rfl k) ?_
        show Ends _ _ _ _ (T12.setTop (mkF m 52 #[.val (.int p1), .val (.int p2), .val (.int p3), .val (.int p4), .val (.int p5), .val (.ref x_1), .val w4, .val w10, .unset, .unset] [(.int p4)]))
        have F78 : Old Z n0 h12 := (((X00.keep K1 all0).keep K6 all0).keep K12 all0)
        obtain ⟨_, _, ⟨T79, L79, k79, n79⟩, -, X79, ⟨Lc79, hQ79, l79, y79, z79⟩, st79⟩ := Jvm.LawKit.callS X12 hx (y := (⟨"com/example/operatory/operatory/fhir/AlternativeOfReferencePinLaw", "str", "(I)Ljava/lang/String;"⟩ : MethodName)) hown (mvT hZ (hw _ (List.mem_of_getElem? (i := 0) rfl))) (mvT hZ (hw _ (List.mem_of_getElem? (i := 1) rfl))) (mvT hZ (hw _ (List.mem_of_getElem? (i := 2) rfl))) (mvT hZ (hw _ (List.mem_of_getElem? (i := 3) rfl))) (by decide) (backOf (W := 0) (rmStr l Z a0 hw [] p4 h12 n0 (Nat.le_trans Z0 (Nat.le_trans (Nat.le_trans K1.1 K6.1) K12.1)) G1 O2 P5 eA SE XE FE F78 ) hZ (hw _ (List.mem_of_getElem? (i := 3) rfl)) (hw _ (List.mem_of_getElem? (i := 2) rfl)) (by decide) (by decide)) (g := (mkF m 52 #[.val (.int p1), .val (.int p2), .val (.int p3), .val (.int p4), .val (.int p5), .val (.ref x_1), .val w4, .val w10, .unset, .unset] [(.int p4)])) rfl (by rw [hml]; rfl) (argsL := [(.int p4)]) (rest := []) (lenOf pd_9 rfl) rfl (by show 2 * 0 + _ ≤ _; exact Nat.le_of_eq rfl) (hb hby at_52) (fun _ _ => ⟨rfl, e12, (by decide : 9 + 3 ≤ _), (by decide : 24 + 8 ≤ _)⟩)
        dsimp only [Pt.U, Pt.locs, Pt.cells, Pt.slots] at X79 l79 y79 z79 st79 hQ79
        have X79 : Stand p l e room_1 s m _ below meth c T79 L79 12 32 := own_reX X79 y79 z79
        obtain ⟨x_79, rfl, Nq79, K79, f79_0, f79_1⟩ := hQ79
        have N79 := own_frApp N12 Nq79 l79
        refine Ends.step st79 ?_
        exact J17 (.ref x_79) T79 T79.heap _ (own_mono X79 (by decide) (by decide)) rfl N79 ((Keep.refl h12 []).trans K79 all0) rfl (Or.inr ⟨_, rfl, f79_1⟩)
      · refine Ends.step (fun t k => XS.ifNo X12.here hx rfl (hb hby at_44) rfl ((if0 _ _).trans (feq c77).1) k) ?_
        show Ends _ _ _ _ (T12.setTop (mkF m 47 #[.val (.int p1), .val (.int p2), .val (.int p3), .val (.int p4), .val (.int p5), .val (.ref x_1), .val w4, .val w10, .unset, .unset] []))
        refine Ends.step (fun t k => XS.aconstNull X12.here hx rfl (hb hby at_47) k) ?_
        show Ends _ _ _ _ (T12.setTop (mkF m 48 #[.val (.int p1), .val (.int p2), .val (.int p3), .val (.int p4), .val (.int p5), .val (.ref x_1), .val w4, .val w10, .unset, .unset] [.null]))
        refine Ends.step (fun t k => XS.goto X12.here hx rfl (pc0 := 48) (pc' := 55) rfl (hb hby at_48) (by decide) (by decide) k) ?_
        exact J17 .null T12 h12 _ (own_mono X12 (by decide) (by decide)) e12 N12 (Keep.refl h12 []) rfl (Or.inl rfl)
    by_cases c80 : (p5 &&& (2 : Int32)) = (0 : Int32)
    · refine Ends.step (fun t k => XS.ifYes X6.here hx rfl (pc0 := 27) (pc' := 34) rfl (hb hby at_27) rfl ((if0 _ _).trans (teq c80).1) (by decide) (by decide) k) ?_
      show Ends _ _ _ _ (T6.setTop (mkF m 34 #[.val (.int p1), .val (.int p2), .val (.int p3), .val (.int p4), .val (.int p5), .val (.ref x_1), .val w4, .unset, .unset, .unset] []))
      refine Ends.step (fun t k => XS.iloadN X6.here hx rfl (hb hby at_34) rfl k) ?_
      show Ends _ _ _ _ (T6.setTop (mkF m 35 #[.val (.int p1), .val (.int p2), .val (.int p3), .val (.int p4), .val (.int p5), .val (.ref x_1), .val w4, .unset, .unset, .unset] [(.int p3)]))
      have F81 : Old Z n0 h6 := ((X00.keep K1 all0).keep K6 all0)
      obtain ⟨_, _, ⟨T82, L82, k82, n82⟩, -, X82, ⟨Lc82, hQ82, l82, y82, z82⟩, st82⟩ := Jvm.LawKit.callS X6 hx (y := (⟨"com/example/operatory/operatory/fhir/AlternativeOfReferencePinLaw", "str", "(I)Ljava/lang/String;"⟩ : MethodName)) hown (mvT hZ (hw _ (List.mem_of_getElem? (i := 0) rfl))) (mvT hZ (hw _ (List.mem_of_getElem? (i := 1) rfl))) (mvT hZ (hw _ (List.mem_of_getElem? (i := 2) rfl))) (mvT hZ (hw _ (List.mem_of_getElem? (i := 3) rfl))) (by decide) (backOf (W := 0) (rmStr l Z a0 hw [] p3 h6 n0 (Nat.le_trans Z0 (Nat.le_trans K1.1 K6.1)) G1 O2 P5 eA SE XE FE F81 ) hZ (hw _ (List.mem_of_getElem? (i := 3) rfl)) (hw _ (List.mem_of_getElem? (i := 2) rfl)) (by decide) (by decide)) (g := (mkF m 35 #[.val (.int p1), .val (.int p2), .val (.int p3), .val (.int p4), .val (.int p5), .val (.ref x_1), .val w4, .unset, .unset, .unset] [(.int p3)])) rfl (by rw [hml]; rfl) (argsL := [(.int p3)]) (rest := []) (lenOf pd_9 rfl) rfl (by show 2 * 0 + _ ≤ _; exact Nat.le_of_eq rfl) (hb hby at_35) (fun _ _ => ⟨rfl, e6, (by decide : 6 + 3 ≤ _), (by decide : 16 + 8 ≤ _)⟩)
      dsimp only [Pt.U, Pt.locs, Pt.cells, Pt.slots] at X82 l82 y82 z82 st82 hQ82
      have X82 : Stand p l e room_1 s m _ below meth c T82 L82 9 24 := own_reX X82 y82 z82
      obtain ⟨x_82, rfl, Nq82, K82, f82_0, f82_1⟩ := hQ82
      have N82 := own_frApp N6 Nq82 l82
      refine Ends.step st82 ?_
      exact J11 (.ref x_82) T82 T82.heap _ (own_mono X82 (by decide) (by decide)) rfl N82 ((Keep.refl h6 []).trans K82 all0) rfl (Or.inr ⟨_, rfl, f82_1⟩)
    · refine Ends.step (fun t k => XS.ifNo X6.here hx rfl (hb hby at_27) rfl ((if0 _ _).trans (feq c80).1) k) ?_
      show Ends _ _ _ _ (T6.setTop (mkF m 30 #[.val (.int p1), .val (.int p2), .val (.int p3), .val (.int p4), .val (.int p5), .val (.ref x_1), .val w4, .unset, .unset, .unset] []))
      refine Ends.step (fun t k => XS.aconstNull X6.here hx rfl (hb hby at_30) k) ?_
      show Ends _ _ _ _ (T6.setTop (mkF m 31 #[.val (.int p1), .val (.int p2), .val (.int p3), .val (.int p4), .val (.int p5), .val (.ref x_1), .val w4, .unset, .unset, .unset] [.null]))
      refine Ends.step (fun t k => XS.goto X6.here hx rfl (pc0 := 31) (pc' := 38) rfl (hb hby at_31) (by decide) (by decide) k) ?_
      exact J11 .null T6 h6 _ (own_mono X6 (by decide) (by decide)) e6 N6 (Keep.refl h6 []) rfl (Or.inl rfl)
  by_cases c83 : (p5 &&& (1 : Int32)) = (0 : Int32)
  · refine Ends.step (fun t k => XS.ifYes X1.here hx rfl (pc0 := 10) (pc' := 17) rfl (hb hby at_10) rfl ((if0 _ _).trans (teq c83).1) (by decide) (by decide) k) ?_
    show Ends _ _ _ _ (T1.setTop (mkF m 17 #[.val (.int p1), .val (.int p2), .val (.int p3), .val (.int p4), .val (.int p5), .val (.ref x_1), .unset, .unset, .unset, .unset] []))
    refine Ends.step (fun t k => XS.iloadN X1.here hx rfl (hb hby at_17) rfl k) ?_
    show Ends _ _ _ _ (T1.setTop (mkF m 18 #[.val (.int p1), .val (.int p2), .val (.int p3), .val (.int p4), .val (.int p5), .val (.ref x_1), .unset, .unset, .unset, .unset] [(.int p2)]))
    have F84 : Old Z n0 T1.heap := (X00.keep K1 all0)
    obtain ⟨_, _, ⟨T85, L85, k85, n85⟩, -, X85, ⟨Lc85, hQ85, l85, y85, z85⟩, st85⟩ := Jvm.LawKit.callS X1 hx (y := (⟨"com/example/operatory/operatory/fhir/AlternativeOfReferencePinLaw", "str", "(I)Ljava/lang/String;"⟩ : MethodName)) hown (mvT hZ (hw _ (List.mem_of_getElem? (i := 0) rfl))) (mvT hZ (hw _ (List.mem_of_getElem? (i := 1) rfl))) (mvT hZ (hw _ (List.mem_of_getElem? (i := 2) rfl))) (mvT hZ (hw _ (List.mem_of_getElem? (i := 3) rfl))) (by decide) (backOf (W := 0) (rmStr l Z a0 hw [] p2 T1.heap n0 (Nat.le_trans Z0 K1.1) G1 O2 P5 eA SE XE FE F84 ) hZ (hw _ (List.mem_of_getElem? (i := 3) rfl)) (hw _ (List.mem_of_getElem? (i := 2) rfl)) (by decide) (by decide)) (g := (mkF m 18 #[.val (.int p1), .val (.int p2), .val (.int p3), .val (.int p4), .val (.int p5), .val (.ref x_1), .unset, .unset, .unset, .unset] [(.int p2)])) rfl (by rw [hml]; rfl) (argsL := [(.int p2)]) (rest := []) (lenOf pd_9 rfl) rfl (by show 2 * 0 + _ ≤ _; exact Nat.le_of_eq rfl) (hb hby at_18) (fun _ _ => ⟨rfl, rfl, (by decide : 3 + 3 ≤ _), (by decide : 8 + 8 ≤ _)⟩)
    dsimp only [Pt.U, Pt.locs, Pt.cells, Pt.slots] at X85 l85 y85 z85 st85 hQ85
    have X85 : Stand p l e room_1 s m _ below meth c T85 L85 6 16 := own_reX X85 y85 z85
    obtain ⟨x_85, rfl, Nq85, K85, f85_0, f85_1⟩ := hQ85
    have N85 := own_frApp N1 Nq85 l85
    refine Ends.step st85 ?_
    exact J5 (.ref x_85) T85 T85.heap _ (own_mono X85 (by decide) (by decide)) rfl N85 ((Keep.refl T1.heap []).trans K85 all0) rfl (Or.inr ⟨_, rfl, f85_1⟩)
  · refine Ends.step (fun t k => XS.ifNo X1.here hx rfl (hb hby at_10) rfl ((if0 _ _).trans (feq c83).1) k) ?_
    show Ends _ _ _ _ (T1.setTop (mkF m 13 #[.val (.int p1), .val (.int p2), .val (.int p3), .val (.int p4), .val (.int p5), .val (.ref x_1), .unset, .unset, .unset, .unset] []))
    refine Ends.step (fun t k => XS.aconstNull X1.here hx rfl (hb hby at_13) k) ?_
    show Ends _ _ _ _ (T1.setTop (mkF m 14 #[.val (.int p1), .val (.int p2), .val (.int p3), .val (.int p4), .val (.int p5), .val (.ref x_1), .unset, .unset, .unset, .unset] [.null]))
    refine Ends.step (fun t k => XS.goto X1.here hx rfl (pc0 := 14) (pc' := 21) rfl (hb hby at_14) (by decide) (by decide) k) ?_
    exact J5 .null T1 T1.heap _ (own_mono X1 (by decide) (by decide)) rfl N1 (Keep.refl T1.heap []) rfl (Or.inl rfl)
set_option maxRecDepth 65536 in
set_option maxHeartbeats 40000000 in
theorem comes_1 {Post : Tables → Env → Array Value → State → Outcome → State → Prop} (hpost : ∀ tb e args s v u, (limb_1_1.after args s (.returned v) u = true ∧ limb_1_2.after args s (.returned v) u = true ∧ True) → FrameEnd s (.returned v) u (Jvm.fieldLocs frame_1_writes args s ++ Jvm.arrayLocs frame_1_arrays args s ++ Jvm.staticLocs frame_1_statics s) 40 192 → Post tb e args s (.returned v) u) :
    ArmFor flags0 classFile x code maxLocals ret World_1 tables_1 room_1 Calls_1 rest_1 Pre_1 Post := by
  intro l hfl _ _ p e ha hc hk s m args below hf hA hF happ hP
  obtain ⟨hcalls, hrest, hpre⟩ := hP
  obtain ⟨-, -, -, hnamed, -, -, -, hat⟩ := (Spec.applies_iff hf).mp happ
  obtain ⟨hg, hn⟩ := and_e (Cond.before_iff.mp (show (Jvm.Cond.and given_1 narrow_1).before args s = true from hpre))
  obtain ⟨hcount, hg1⟩ := and_e hg
  obtain ⟨w0, w1, w2, w3, w4, rfl⟩ : ∃ w0 w1 w2 w3 w4 : Value, args = #[w0, w1, w2, w3, w4] := by
    have hs : args.size = 5 := by simpa [Cond.value, given_1] using hcount
    obtain ⟨L⟩ := args
    match L, hs with
    | [w0, w1, w2, w3, w4], _ => exact ⟨w0, w1, w2, w3, w4, rfl⟩
  have hw := fun d (hd : d ∈ tables_1) => atoms_spec (ws := Jvm.Cond.code x code maxLocals ret :: tables_1) hat d (List.mem_cons_of_mem _ hd)
  have hfit : Fit s := fun {y c} hc i hi => by
    obtain ⟨ha, rfl⟩ := Array.getElem?_eq_some_iff.mp hc
    have q := List.all_eq_true.mp ((Array.all_eq_true_iff_forall_mem.mp hF) _ (Array.getElem_mem ha)) i (List.mem_range.mpr hi)
    simpa [Array.getElem?_eq_getElem hi] using q
  obtain ⟨ga0, hg2⟩ := and_e hg1
  obtain ⟨i0, ei0⟩ := is_v ga0
  obtain rfl : w0 = (.int i0) := Option.some.inj ei0
  obtain ⟨ga1, hg3⟩ := and_e hg2
  obtain ⟨i1, ei1⟩ := is_v ga1
  obtain rfl : w1 = (.int i1) := Option.some.inj ei1
  obtain ⟨ga2, hg4⟩ := and_e hg3
  obtain ⟨i2, ei2⟩ := is_v ga2
  obtain rfl : w2 = (.int i2) := Option.some.inj ei2
  obtain ⟨ga3, hg5⟩ := and_e hg4
  obtain ⟨i3, ei3⟩ := is_v ga3
  obtain rfl : w3 = (.int i3) := Option.some.inj ei3
  obtain ⟨i4, ei4⟩ := is_v hg5
  obtain rfl : w4 = (.int i4) := Option.some.inj ei4
  obtain ⟨hsets, hown0⟩ := atoms_of _ (rest_1_c_eq ▸ (show rest_1_c.before _ s = true from hrest))
  have nCS := not_v (Cond.before_iff.mp (hsets _ (List.mem_of_getElem? (i := 2) rfl)))
  obtain ⟨iCS, eCS⟩ := is_v (Cond.before_iff.mp (hsets _ (List.mem_of_getElem? (i := 1) rfl)))
  have SCS : Sta s s.heap "java/lang/String" "COMPACT_STRINGS" "Z" (.int iCS) := Sta.start eCS (Or.inl (hsets _ (List.mem_of_getElem? (i := 0) rfl)))
  have cCS : ¬ (iCS = (0 : Int32)) := gotF (Cond.eq_ints eCS (Term.int_eval (0))) nCS
  obtain ⟨aE, evE⟩ := exa_v (Cond.before_iff.mp (hsets _ (List.mem_of_getElem? (i := 11) rfl)))
  have SE : Sta s s.heap "java/util/Optional" "EMPTY" "Ljava/util/Optional;" (.ref aE) := Sta.start evE (Or.inl (hsets _ (List.mem_of_getElem? (i := 10) rfl)))
  have XE : Exa s s.heap aE "java/util/Optional" := Exa.start evE (Cond.before_iff.mp (hsets _ (List.mem_of_getElem? (i := 11) rfl)))
  have FE : Fld s s.heap aE "java/util/Optional" "value" "Ljava/lang/Object;" .null := Fld.start ((fld_at evE).symm.trans (null_v (Cond.before_iff.mp (hsets _ (List.mem_of_getElem? (i := 12) rfl)))))
  obtain ⟨n, o, h1, h2, h3, _, L, rfl, ⟨rfl, N, _⟩, hq⟩ := rm0 l s _ hw tables_1 i0 i1 i2 i3 i4 s.heap s.heap.size (Nat.le_refl _) iCS SCS cCS aE SE XE FE (Old.start s) p e ha hc hk s m _ below hf ((Spec.applies_iff_loose hf).mp happ).1 ⟨rfl, State.Warmed39.refl s, rfl⟩ trivial
  refine ⟨n, _, h1, h2, h3, hpost _ _ _ _ _ _ ⟨Cond.after_iff.mpr rfl, Cond.after_iff.mpr (eq_i res_at (Term.int_eval (1)) rfl), trivial⟩ ⟨hq.1, hq.2.1, (hq.2.2.sift fun y hy => Or.inr (N y hy)).mono (by decide) (by decide)⟩⟩
theorem main_1_1 : Claimed_1_1 := comes_1 fun _ _ _ _ _ _ h hF => ⟨h.1, hF⟩
theorem main_1_2 : Claimed_1_2 := comes_1 fun _ _ _ _ _ _ h hF => ⟨h.2.1, hF⟩
end Jvm.Pilot.@@N@@
namespace Jvm.Pilot.@@N@@
open Jvm Jvm.ClassFile Sem Op Lib Jvm.Free Jvm.Stand Jvm.Pilot.@@N@@.Jvm.D
/-! MADE BY PROGRAM (witnessworld.py) out of the Statement's table words and the real class files: 21 classes; the members and pool entries that the words name. The judged class is class 1, her method 3. -/
namespace start1
open Jvm.ClassFile
def u (s : String) : CpInfo := .utf8 (stringToUtf16 s)
/-- a pool by its gaps: so many unusable entries, then the entry; so many at the end -/
def gap : Nat → List CpInfo → List CpInfo
  | 0, r => r
  | n + 1, r => .unusable :: gap n r
def poolList (es : List (Nat × CpInfo)) (last : Nat) : List CpInfo := es.foldr (fun e r => gap e.1 (e.2 :: r)) (gap last [])
def pool (es : List (Nat × CpInfo)) (last : Nat) : Array CpInfo := ⟨poolList es last⟩
def fileOf (pool : Array CpInfo) (this : Nat) (attrs : Array Attribute := #[]) (ms : Array MethodInfo := #[]) (fl : Nat := 33) (sup : Nat := 0) (ifs : Array Nat := #[]) (fds : Array FieldInfo := #[]) : ClassFile where
  minorVersion := 0
  majorVersion := 65
  constantPool := pool
  accessFlags := fl
  thisClass := this
  superClass := sup
  interfaces := ifs
  fields := fds
  methods := ms
  attributes := attrs
def plain (name : String) (sup : Option ClassId) : Class where
  name := name
  kind := .ordinary
  loader := none
  accessFlags := 33
  super := sup
  interfaces := #[]
  cf := none
  fields := #[]
  methods := #[]
  instanceTypes := #[]
  staticTypes := #[]
  resolved := #[]
  callSites := []
  init := .initialized
  statics := none
  mirror := none

def pool0 : Array CpInfo := pool [(5, u "<init>"), (0, u "()V"), (1, .class_ 10), (1, u "java/lang/Object")] 113

def k0c0 : Code := { maxStack := 0, maxLocals := 1, code := object_method_1_code, exceptionTable := #[], attributes := #[] }
def k0m0 : Method := { name := "<init>", desc := "()V", sig := { parameters := [], returnType := none }, accessFlags := 1, code := some k0c0 }
/-- java/lang/Object -/
def k0 : Class := { plain "java/lang/Object" none with
  accessFlags := 33
  interfaces := #[]
  cf := some (fileOf pool0 8 #[] #[{ accessFlags := 1, nameIndex := 5, descriptorIndex := 6, attributes := #[] }] 33 0 #[] #[])
  fields := #[]
  methods := #[k0m0]
  instanceTypes := #[]
  staticTypes := #[]
  resolved := Array.replicate 124 none
  statics := none }

def pool1 : Array CpInfo := pool [(2, .class_ 4), (1, u "java/lang/Object"), (0, u "<init>"), (0, u "()V"), (0, .methodref 8 9), (0, .class_ 10), (0, .nameAndType 11 12), (0, u "java/lang/String"), (0, u "valueOf"), (0, u "(C)Ljava/lang/String;"), (0, .methodref 8 14), (0, .nameAndType 5 15), (0, u "([C)V"), (0, .methodref 8 17), (0, .nameAndType 18 19), (0, u "equals"), (0, u "(Ljava/lang/Object;)Z"), (0, .methodref 21 22), (0, .class_ 23), (0, .nameAndType 24 25), (0, u "com/example/operatory/operatory/fhir/AlternativeOfReferencePinLaw"), (0, u "str"), (0, u "(I)Ljava/lang/String;"), (0, .methodref 27 28), (0, .class_ 29), (0, .nameAndType 30 31), (0, u "com/example/operatory/operatory/fhir/SearchValue$Alternative"), (0, u "ofReference"), (0, u "(Ljava/lang/String;Ljava/lang/String;Ljava/lang/String;Ljava/lang/String;)Lcom/example/operatory/operatory/fhir/SearchValue$Alternative;"), (0, .methodref 27 33), (0, .nameAndType 34 35), (0, u "text"), (0, u "()Ljava/lang/String;"), (0, .methodref 21 37), (0, .nameAndType 38 39), (0, u "same"), (0, u "(Ljava/lang/String;Ljava/lang/String;)Z"), (0, .methodref 27 41), (0, .nameAndType 42 43), (0, u "type"), (0, u "()Ljava/util/Optional;"), (0, .methodref 45 46), (0, .class_ 47), (0, .nameAndType 48 49), (0, u "java/util/Optional"), (0, u "orElse"), (0, u "(Ljava/lang/Object;)Ljava/lang/Object;"), (0, .methodref 27 51), (0, .nameAndType 52 43), (0, u "id"), (0, .methodref 27 54), (0, .nameAndType 55 43), (0, u "url"), (0, .methodref 27 57), (0, .nameAndType 58 43), (0, u "prefix"), (0, .methodref 45 60), (0, .nameAndType 61 62), (0, u "isPresent"), (0, u "()Z"), (0, .methodref 27 64), (0, .nameAndType 65 43), (0, u "number"), (0, .methodref 27 67), (0, .nameAndType 68 43), (0, u "date"), (0, .methodref 27 70), (0, .nameAndType 71 43), (0, u "precision"), (0, .methodref 27 73), (0, .nameAndType 74 43), (0, u "system"), (0, .methodref 27 76), (0, .nameAndType 77 43), (0, u "code"), (0, .methodref 27 79), (0, .nameAndType 80 43), (0, u "value"), (0, .methodref 27 82), (0, .nameAndType 83 43), (0, u "missing"), (0, .methodref 27 85), (0, .nameAndType 86 62), (0, u "noSystem"), (3, u "law"), (0, u "(IIIII)Z")] 6

def k1m0 : Method := { name := "<init>", desc := "()V", sig := { parameters := [], returnType := none }, accessFlags := 1, code := none }
def k1c1 : Code := { maxStack := 3, maxLocals := 4, code := method_2_code, exceptionTable := #[], attributes := #[] }
def k1m1 : Method := { name := "str", desc := "(I)Ljava/lang/String;", sig := { parameters := [.int], returnType := some (.object "java/lang/String") }, accessFlags := 10, code := some k1c1 }
def k1c2 : Code := { maxStack := 2, maxLocals := 2, code := method_3_code, exceptionTable := #[], attributes := #[] }
def k1m2 : Method := { name := "same", desc := "(Ljava/lang/String;Ljava/lang/String;)Z", sig := { parameters := [(.object "java/lang/String"), (.object "java/lang/String")], returnType := some .boolean }, accessFlags := 10, code := some k1c2 }
def k1c3 : Code := { maxStack := 4, maxLocals := 10, code := code, exceptionTable := #[], attributes := #[] }
def k1m3 : Method := { name := "law", desc := "(IIIII)Z", sig := { parameters := [.int, .int, .int, .int, .int], returnType := some .boolean }, accessFlags := 9, code := some k1c3 }
/-- com/example/operatory/operatory/fhir/AlternativeOfReferencePinLaw -/
def k1 : Class := { plain "com/example/operatory/operatory/fhir/AlternativeOfReferencePinLaw" (some 0) with
  accessFlags := 49
  interfaces := #[]
  cf := some (fileOf pool1 21 #[] #[{ accessFlags := 1, nameIndex := 5, descriptorIndex := 6, attributes := #[] }, { accessFlags := 10, nameIndex := 24, descriptorIndex := 25, attributes := #[] }, { accessFlags := 10, nameIndex := 38, descriptorIndex := 39, attributes := #[] }, { accessFlags := 9, nameIndex := 90, descriptorIndex := 91, attributes := #[] }] 49 2 #[] #[])
  fields := #[]
  methods := #[k1m0, k1m1, k1m2, k1m3]
  instanceTypes := #[]
  staticTypes := #[]
  resolved := Array.replicate 98 none
  statics := none }

def pool2 : Array CpInfo := pool [(1, .class_ 2), (0, u "java/io/Serializable"), (0, .class_ 4), (0, u "java/lang/Object")] 2

/-- java/io/Serializable -/
def k2 : Class := { plain "java/io/Serializable" (some 0) with
  accessFlags := 1537
  interfaces := #[]
  cf := some (fileOf pool2 1 #[] #[] 1537 3 #[] #[])
  fields := #[]
  methods := #[]
  instanceTypes := #[]
  staticTypes := #[]
  resolved := Array.replicate 7 none
  statics := none }

def pool3 : Array CpInfo := pool [(1, .class_ 2), (0, u "java/lang/Comparable"), (0, .class_ 4), (0, u "java/lang/Object")] 7

/-- java/lang/Comparable -/
def k3 : Class := { plain "java/lang/Comparable" (some 0) with
  accessFlags := 1537
  interfaces := #[]
  cf := some (fileOf pool3 1 #[] #[] 1537 3 #[] #[])
  fields := #[]
  methods := #[]
  instanceTypes := #[]
  staticTypes := #[]
  resolved := Array.replicate 12 none
  statics := none }

def pool4 : Array CpInfo := pool [(2, .class_ 4), (1, u "java/lang/CharSequence"), (42, .class_ 48), (0, u "java/lang/CharSequence$1CodePointIterator"), (10, .class_ 60), (0, u "java/lang/CharSequence$1CharIterator"), (5, .class_ 67), (0, u "java/lang/Object")] 63

/-- java/lang/CharSequence -/
def k4 : Class := { plain "java/lang/CharSequence" (some 0) with
  accessFlags := 1537
  interfaces := #[]
  cf := some (fileOf pool4 2 #[.nestMembers #[47, 59]] #[] 1537 66 #[] #[])
  fields := #[]
  methods := #[]
  instanceTypes := #[]
  staticTypes := #[]
  resolved := Array.replicate 131 none
  statics := none }

def pool5 : Array CpInfo := pool [(1, .class_ 2), (0, u "java/lang/constant/Constable"), (0, .class_ 4), (0, u "java/lang/Object")] 6

/-- java/lang/constant/Constable -/
def k5 : Class := { plain "java/lang/constant/Constable" (some 0) with
  accessFlags := 1537
  interfaces := #[]
  cf := some (fileOf pool5 1 #[] #[] 1537 3 #[] #[])
  fields := #[]
  methods := #[]
  instanceTypes := #[]
  staticTypes := #[]
  resolved := Array.replicate 11 none
  statics := none }

def pool6 : Array CpInfo := pool [(1, .class_ 2), (0, u "java/lang/constant/ConstantDesc"), (0, .class_ 4), (0, u "java/lang/Object")] 32

/-- java/lang/constant/ConstantDesc -/
def k6 : Class := { plain "java/lang/constant/ConstantDesc" (some 0) with
  accessFlags := 1537
  interfaces := #[]
  cf := some (fileOf pool6 1 #[] #[] 1537 3 #[] #[])
  fields := #[]
  methods := #[]
  instanceTypes := #[]
  staticTypes := #[]
  resolved := Array.replicate 37 none
  statics := none }

def pool7 : Array CpInfo := pool [(1, .methodref 2 3), (0, .class_ 4), (0, .nameAndType 5 6), (0, u "java/lang/Object"), (0, u "<init>"), (0, u "()V"), (2, .fieldref 10 11), (0, .class_ 12), (0, .nameAndType 13 14), (0, u "java/lang/String"), (0, u "value"), (0, u "[B"), (0, .fieldref 10 16), (0, .nameAndType 17 18), (0, u "coder"), (0, u "B"), (2, u "hash"), (0, u "I"), (2, u "hashIsZero"), (0, u "Z"), (0, .methodref 10 28), (0, .nameAndType 5 29), (0, u "([CIILjava/lang/Void;)V"), (8, .fieldref 10 39), (0, .nameAndType 40 26), (0, u "COMPACT_STRINGS"), (1, .class_ 44), (1, u "java/lang/StringUTF16"), (0, u "compress"), (1, .methodref 42 48), (0, .nameAndType 49 50), (0, u "coderFromArrayLen"), (0, u "([BI)B"), (2, u "toBytes"), (53, .class_ 109), (1, u "java/lang/StringLatin1"), (67, .methodref 42 178), (0, .nameAndType 45 179), (0, u "([CII)[B"), (29, .methodref 10 210), (0, .nameAndType 5 211), (0, u "([BB)V"), (157, u "(C)Z"), (173, u "equals"), (29, u "(Ljava/lang/Object;)Z"), (1, .class_ 576), (0, u "java/lang/CharSequence"), (22, u "CASE_INSENSITIVE_ORDER"), (0, u "Ljava/util/Comparator;"), (181, u "valueOf"), (0, u "(C)Ljava/lang/String;"), (226, u "([C)V"), (4, .methodref 107 1016), (0, .nameAndType 1017 369), (0, u "canEncode"), (0, .methodref 107 1019), (0, .nameAndType 53 1020), (0, u "(C)[B"), (80, u "serialPersistentFields"), (0, u "[Ljava/io/ObjectStreamField;"), (0, .class_ 1104), (0, u "java/lang/String$CaseInsensitiveComparator"), (1, .class_ 1107), (0, u "java/io/Serializable"), (0, .class_ 1109), (0, u "java/lang/Comparable"), (0, .class_ 1111), (0, u "java/lang/constant/Constable"), (0, .class_ 1113), (0, u "java/lang/constant/ConstantDesc"), (2, u "serialVersionUID"), (0, u "J"), (3, u "REPL"), (0, u "C"), (2, u "LATIN1"), (1, u "UTF16")] 323

def k7m0 : Method := { name := "<init>", desc := "()V", sig := { parameters := [], returnType := none }, accessFlags := 1, code := none }
def k7c1 : Code := { maxStack := 5, maxLocals := 2, code := jdk_42_method_3_code, exceptionTable := #[], attributes := #[] }
def k7m1 : Method := { name := "<init>", desc := "([C)V", sig := { parameters := [(.array .char)], returnType := none }, accessFlags := 1, code := some k7c1 }
def k7c2 : Code := { maxStack := 2, maxLocals := 3, code := jdk_42_method_66_code, exceptionTable := #[], attributes := #[] }
def k7m2 : Method := { name := "equals", desc := "(Ljava/lang/Object;)Z", sig := { parameters := [(.object "java/lang/Object")], returnType := some .boolean }, accessFlags := 1, code := some k7c2 }
def k7c3 : Code := { maxStack := 4, maxLocals := 1, code := jdk_42_method_139_code, exceptionTable := #[], attributes := #[] }
def k7m3 : Method := { name := "valueOf", desc := "(C)Ljava/lang/String;", sig := { parameters := [.char], returnType := some (.object "java/lang/String") }, accessFlags := 9, code := some k7c3 }
def k7c4 : Code := { maxStack := 4, maxLocals := 6, code := jdk_42_method_149_code, exceptionTable := #[], attributes := #[] }
def k7m4 : Method := { name := "<init>", desc := "([CIILjava/lang/Void;)V", sig := { parameters := [(.array .char), .int, .int, (.object "java/lang/Void")], returnType := none }, accessFlags := 2, code := some k7c4 }
def k7c5 : Code := { maxStack := 2, maxLocals := 3, code := jdk_42_method_151_code, exceptionTable := #[], attributes := #[] }
def k7m5 : Method := { name := "<init>", desc := "([BB)V", sig := { parameters := [(.array .byte), .byte], returnType := none }, accessFlags := 0, code := some k7c5 }
/-- java/lang/String -/
def k7 : Class := { plain "java/lang/String" (some 0) with
  accessFlags := 49
  interfaces := #[2, 3, 4, 5, 6]
  cf := some (fileOf pool7 10 #[.nestMembers #[1103]] #[{ accessFlags := 1, nameIndex := 5, descriptorIndex := 6, attributes := #[] }, { accessFlags := 1, nameIndex := 5, descriptorIndex := 1010, attributes := #[] }, { accessFlags := 1, nameIndex := 543, descriptorIndex := 573, attributes := #[] }, { accessFlags := 9, nameIndex := 782, descriptorIndex := 783, attributes := #[] }, { accessFlags := 2, nameIndex := 5, descriptorIndex := 29, attributes := #[] }, { accessFlags := 0, nameIndex := 5, descriptorIndex := 211, attributes := #[] }] 49 2 #[1106, 1108, 575, 1110, 1112] #[{ accessFlags := 18, nameIndex := 13, descriptorIndex := 14, attributes := #[] }, { accessFlags := 18, nameIndex := 17, descriptorIndex := 18, attributes := #[] }, { accessFlags := 2, nameIndex := 21, descriptorIndex := 22, attributes := #[] }, { accessFlags := 2, nameIndex := 25, descriptorIndex := 26, attributes := #[] }, { accessFlags := 26, nameIndex := 1116, descriptorIndex := 1117, attributes := #[] }, { accessFlags := 24, nameIndex := 40, descriptorIndex := 26, attributes := #[] }, { accessFlags := 26, nameIndex := 1101, descriptorIndex := 1102, attributes := #[] }, { accessFlags := 26, nameIndex := 1121, descriptorIndex := 1122, attributes := #[] }, { accessFlags := 25, nameIndex := 599, descriptorIndex := 600, attributes := #[] }, { accessFlags := 24, nameIndex := 1125, descriptorIndex := 18, attributes := #[] }, { accessFlags := 24, nameIndex := 1127, descriptorIndex := 18, attributes := #[] }])
  fields := #[{ name := "value", type := (.array .byte), accessFlags := 18, slot := 0, constantValue := 0 }, { name := "coder", type := .byte, accessFlags := 18, slot := 1, constantValue := 0 }, { name := "hash", type := .int, accessFlags := 2, slot := 2, constantValue := 0 }, { name := "hashIsZero", type := .boolean, accessFlags := 2, slot := 3, constantValue := 0 }, { name := "serialVersionUID", type := .long, accessFlags := 26, slot := 0, constantValue := 0 }, { name := "COMPACT_STRINGS", type := .boolean, accessFlags := 24, slot := 1, constantValue := 0 }, { name := "serialPersistentFields", type := (.array (.object "java/io/ObjectStreamField")), accessFlags := 26, slot := 2, constantValue := 0 }, { name := "REPL", type := .char, accessFlags := 26, slot := 3, constantValue := 0 }, { name := "CASE_INSENSITIVE_ORDER", type := (.object "java/util/Comparator"), accessFlags := 25, slot := 4, constantValue := 0 }, { name := "LATIN1", type := .byte, accessFlags := 24, slot := 5, constantValue := 0 }, { name := "UTF16", type := .byte, accessFlags := 24, slot := 6, constantValue := 0 }]
  methods := #[k7m0, k7m1, k7m2, k7m3, k7m4, k7m5]
  instanceTypes := #[(.array .byte), .byte, .int, .boolean]
  staticTypes := #[.long, .boolean, (.array (.object "java/io/ObjectStreamField")), .char, (.object "java/util/Comparator"), .byte, .byte]
  resolved := Array.replicate 1451 none
  statics := some 0 }

def pool8 : Array CpInfo := pool [(6, .class_ 8), (1, u "java/lang/Object"), (0, u "<init>"), (0, u "()V"), (1, .class_ 14), (1, u "java/lang/StringUTF16"), (31, u "$assertionsDisabled"), (0, u "Z"), (13, u "HI_BYTE_SHIFT"), (0, u "I"), (2, u "LO_BYTE_SHIFT"), (49, .methodref 12 116), (0, .nameAndType 117 118), (0, u "compress"), (0, u "([CI[BII)I"), (3, u "([CII)[B"), (138, u "coderFromArrayLen"), (0, u "([BI)B"), (106, .class_ 371), (1, u "java/lang/StringUTF16$LinesSpliterator"), (58, u "MAX_LENGTH"), (196, .class_ 628), (0, u "java/lang/StringUTF16$CodePointsSpliterator"), (0, .class_ 630), (0, u "java/lang/StringUTF16$CharsSpliterator")] 4

def k8m0 : Method := { name := "<init>", desc := "()V", sig := { parameters := [], returnType := none }, accessFlags := 0, code := none }
def k8c1 : Code := { maxStack := 2, maxLocals := 2, code := jdk_52_method_15_code, exceptionTable := #[], attributes := #[] }
def k8m1 : Method := { name := "coderFromArrayLen", desc := "([BI)B", sig := { parameters := [(.array .byte), .int], returnType := some .byte }, accessFlags := 8, code := some k8c1 }
def k8c2 : Code := { maxStack := 5, maxLocals := 6, code := jdk_52_method_16_code, exceptionTable := #[], attributes := #[] }
def k8m2 : Method := { name := "compress", desc := "([CII)[B", sig := { parameters := [(.array .char), .int, .int], returnType := some (.array .byte) }, accessFlags := 9, code := some k8c2 }
def k8c3 : Code := { maxStack := 3, maxLocals := 7, code := jdk_52_method_21_code, exceptionTable := #[], attributes := #[] }
def k8m3 : Method := { name := "compress", desc := "([CI[BII)I", sig := { parameters := [(.array .char), .int, (.array .byte), .int, .int], returnType := some .int }, accessFlags := 9, code := some k8c3 }
/-- java/lang/StringUTF16 -/
def k8 : Class := { plain "java/lang/StringUTF16" (some 0) with
  accessFlags := 48
  interfaces := #[]
  cf := some (fileOf pool8 12 #[.nestMembers #[627, 629, 369]] #[{ accessFlags := 0, nameIndex := 9, descriptorIndex := 10, attributes := #[] }, { accessFlags := 8, nameIndex := 261, descriptorIndex := 262, attributes := #[] }, { accessFlags := 9, nameIndex := 117, descriptorIndex := 122, attributes := #[] }, { accessFlags := 9, nameIndex := 117, descriptorIndex := 118, attributes := #[] }] 48 6 #[] #[{ accessFlags := 26, nameIndex := 61, descriptorIndex := 62, attributes := #[] }, { accessFlags := 26, nameIndex := 65, descriptorIndex := 62, attributes := #[] }, { accessFlags := 24, nameIndex := 430, descriptorIndex := 62, attributes := #[] }, { accessFlags := 4120, nameIndex := 46, descriptorIndex := 47, attributes := #[] }])
  fields := #[{ name := "HI_BYTE_SHIFT", type := .int, accessFlags := 26, slot := 0, constantValue := 0 }, { name := "LO_BYTE_SHIFT", type := .int, accessFlags := 26, slot := 1, constantValue := 0 }, { name := "MAX_LENGTH", type := .int, accessFlags := 24, slot := 2, constantValue := 0 }, { name := "$assertionsDisabled", type := .boolean, accessFlags := 4120, slot := 3, constantValue := 0 }]
  methods := #[k8m0, k8m1, k8m2, k8m3]
  instanceTypes := #[]
  staticTypes := #[.int, .int, .int, .boolean]
  resolved := Array.replicate 635 none
  statics := none }

def pool9 : Array CpInfo := pool [(1, .methodref 2 3), (0, .class_ 4), (0, .nameAndType 5 6), (0, u "java/lang/Object"), (0, u "<init>"), (0, u "()V"), (0, .fieldref 8 9), (0, .class_ 10), (0, .nameAndType 11 12), (0, u "com/example/operatory/operatory/fhir/SearchValue$Alternative"), (0, u "text"), (0, u "Ljava/lang/String;"), (0, .fieldref 8 14), (0, .nameAndType 15 16), (0, u "prefix"), (0, u "Lcom/example/operatory/operatory/fhir/SearchValue$Prefix;"), (0, .fieldref 8 18), (0, .nameAndType 19 20), (0, u "number"), (0, u "Ljava/math/BigDecimal;"), (0, .fieldref 8 22), (0, .nameAndType 23 12), (0, u "date"), (0, .fieldref 8 25), (0, .nameAndType 26 27), (0, u "precision"), (0, u "Lcom/example/operatory/operatory/fhir/SearchValue$Precision;"), (0, .fieldref 8 29), (0, .nameAndType 30 12), (0, u "system"), (0, .fieldref 8 32), (0, .nameAndType 33 34), (0, u "noSystem"), (0, u "Z"), (0, .fieldref 8 36), (0, .nameAndType 37 12), (0, u "code"), (0, .fieldref 8 39), (0, .nameAndType 40 12), (0, u "value"), (0, .fieldref 8 42), (0, .nameAndType 43 12), (0, u "type"), (0, .fieldref 8 45), (0, .nameAndType 46 12), (0, u "id"), (0, .fieldref 8 48), (0, .nameAndType 49 12), (0, u "url"), (0, .fieldref 8 51), (0, .nameAndType 52 53), (0, u "missing"), (0, u "Ljava/lang/Boolean;"), (0, .methodref 8 55), (0, .nameAndType 5 56), (0, u "(Ljava/lang/String;Lcom/example/operatory/operatory/fhir/SearchValue$Prefix;Ljava/math/BigDecimal;Ljava/lang/String;Lcom/example/operatory/operatory/fhir/SearchValue$Precision;Ljava/lang/String;ZLjava/lang/String;Ljava/lang/String;Ljava/lang/String;Ljava/lang/String;Ljava/lang/String;Ljava/lang/Boolean;)V"), (6, .methodref 64 65), (0, .class_ 66), (0, .nameAndType 67 68), (0, u "java/util/Optional"), (0, u "ofNullable"), (0, u "(Ljava/lang/Object;)Ljava/util/Optional;"), (12, u "ofReference"), (0, u "(Ljava/lang/String;Ljava/lang/String;Ljava/lang/String;Ljava/lang/String;)Lcom/example/operatory/operatory/fhir/SearchValue$Alternative;"), (0, u "()Ljava/lang/String;"), (0, u "()Ljava/util/Optional;"), (5, u "()Z"), (4, .class_ 96), (0, u "com/example/operatory/operatory/fhir/SearchValue")] 8

def k9c0 : Code := { maxStack := 2, maxLocals := 14, code := prog_5_method_1_code, exceptionTable := #[], attributes := #[] }
def k9m0 : Method := { name := "<init>", desc := "(Ljava/lang/String;Lcom/example/operatory/operatory/fhir/SearchValue$Prefix;Ljava/math/BigDecimal;Ljava/lang/String;Lcom/example/operatory/operatory/fhir/SearchValue$Precision;Ljava/lang/String;ZLjava/lang/String;Ljava/lang/String;Ljava/lang/String;Ljava/lang/String;Ljava/lang/String;Ljava/lang/Boolean;)V", sig := { parameters := [(.object "java/lang/String"), (.object "com/example/operatory/operatory/fhir/SearchValue$Prefix"), (.object "java/math/BigDecimal"), (.object "java/lang/String"), (.object "com/example/operatory/operatory/fhir/SearchValue$Precision"), (.object "java/lang/String"), .boolean, (.object "java/lang/String"), (.object "java/lang/String"), (.object "java/lang/String"), (.object "java/lang/String"), (.object "java/lang/String"), (.object "java/lang/Boolean")], returnType := none }, accessFlags := 2, code := some k9c0 }
def k9c1 : Code := { maxStack := 15, maxLocals := 4, code := prog_5_method_7_code, exceptionTable := #[], attributes := #[] }
def k9m1 : Method := { name := "ofReference", desc := "(Ljava/lang/String;Ljava/lang/String;Ljava/lang/String;Ljava/lang/String;)Lcom/example/operatory/operatory/fhir/SearchValue$Alternative;", sig := { parameters := [(.object "java/lang/String"), (.object "java/lang/String"), (.object "java/lang/String"), (.object "java/lang/String")], returnType := some (.object "com/example/operatory/operatory/fhir/SearchValue$Alternative") }, accessFlags := 8, code := some k9c1 }
def k9c2 : Code := { maxStack := 1, maxLocals := 1, code := prog_5_method_8_code, exceptionTable := #[], attributes := #[] }
def k9m2 : Method := { name := "text", desc := "()Ljava/lang/String;", sig := { parameters := [], returnType := some (.object "java/lang/String") }, accessFlags := 1, code := some k9c2 }
def k9c3 : Code := { maxStack := 1, maxLocals := 1, code := prog_5_method_9_code, exceptionTable := #[], attributes := #[] }
def k9m3 : Method := { name := "prefix", desc := "()Ljava/util/Optional;", sig := { parameters := [], returnType := some (.object "java/util/Optional") }, accessFlags := 1, code := some k9c3 }
def k9c4 : Code := { maxStack := 1, maxLocals := 1, code := prog_5_method_10_code, exceptionTable := #[], attributes := #[] }
def k9m4 : Method := { name := "number", desc := "()Ljava/util/Optional;", sig := { parameters := [], returnType := some (.object "java/util/Optional") }, accessFlags := 1, code := some k9c4 }
def k9c5 : Code := { maxStack := 1, maxLocals := 1, code := prog_5_method_11_code, exceptionTable := #[], attributes := #[] }
def k9m5 : Method := { name := "date", desc := "()Ljava/util/Optional;", sig := { parameters := [], returnType := some (.object "java/util/Optional") }, accessFlags := 1, code := some k9c5 }
def k9c6 : Code := { maxStack := 1, maxLocals := 1, code := prog_5_method_12_code, exceptionTable := #[], attributes := #[] }
def k9m6 : Method := { name := "precision", desc := "()Ljava/util/Optional;", sig := { parameters := [], returnType := some (.object "java/util/Optional") }, accessFlags := 1, code := some k9c6 }
def k9c7 : Code := { maxStack := 1, maxLocals := 1, code := prog_5_method_13_code, exceptionTable := #[], attributes := #[] }
def k9m7 : Method := { name := "system", desc := "()Ljava/util/Optional;", sig := { parameters := [], returnType := some (.object "java/util/Optional") }, accessFlags := 1, code := some k9c7 }
def k9c8 : Code := { maxStack := 1, maxLocals := 1, code := prog_5_method_14_code, exceptionTable := #[], attributes := #[] }
def k9m8 : Method := { name := "noSystem", desc := "()Z", sig := { parameters := [], returnType := some .boolean }, accessFlags := 1, code := some k9c8 }
def k9c9 : Code := { maxStack := 1, maxLocals := 1, code := prog_5_method_15_code, exceptionTable := #[], attributes := #[] }
def k9m9 : Method := { name := "code", desc := "()Ljava/util/Optional;", sig := { parameters := [], returnType := some (.object "java/util/Optional") }, accessFlags := 1, code := some k9c9 }
def k9c10 : Code := { maxStack := 1, maxLocals := 1, code := prog_5_method_16_code, exceptionTable := #[], attributes := #[] }
def k9m10 : Method := { name := "value", desc := "()Ljava/util/Optional;", sig := { parameters := [], returnType := some (.object "java/util/Optional") }, accessFlags := 1, code := some k9c10 }
def k9c11 : Code := { maxStack := 1, maxLocals := 1, code := prog_5_method_17_code, exceptionTable := #[], attributes := #[] }
def k9m11 : Method := { name := "type", desc := "()Ljava/util/Optional;", sig := { parameters := [], returnType := some (.object "java/util/Optional") }, accessFlags := 1, code := some k9c11 }
def k9c12 : Code := { maxStack := 1, maxLocals := 1, code := prog_5_method_18_code, exceptionTable := #[], attributes := #[] }
def k9m12 : Method := { name := "id", desc := "()Ljava/util/Optional;", sig := { parameters := [], returnType := some (.object "java/util/Optional") }, accessFlags := 1, code := some k9c12 }
def k9c13 : Code := { maxStack := 1, maxLocals := 1, code := prog_5_method_19_code, exceptionTable := #[], attributes := #[] }
def k9m13 : Method := { name := "url", desc := "()Ljava/util/Optional;", sig := { parameters := [], returnType := some (.object "java/util/Optional") }, accessFlags := 1, code := some k9c13 }
def k9c14 : Code := { maxStack := 1, maxLocals := 1, code := prog_5_method_20_code, exceptionTable := #[], attributes := #[] }
def k9m14 : Method := { name := "missing", desc := "()Ljava/util/Optional;", sig := { parameters := [], returnType := some (.object "java/util/Optional") }, accessFlags := 1, code := some k9c14 }
/-- com/example/operatory/operatory/fhir/SearchValue$Alternative -/
def k9 : Class := { plain "com/example/operatory/operatory/fhir/SearchValue$Alternative" (some 0) with
  accessFlags := 49
  interfaces := #[]
  cf := some (fileOf pool9 8 #[.nestHost 95] #[{ accessFlags := 2, nameIndex := 5, descriptorIndex := 56, attributes := #[] }, { accessFlags := 8, nameIndex := 81, descriptorIndex := 82, attributes := #[] }, { accessFlags := 1, nameIndex := 11, descriptorIndex := 83, attributes := #[] }, { accessFlags := 1, nameIndex := 15, descriptorIndex := 84, attributes := #[] }, { accessFlags := 1, nameIndex := 19, descriptorIndex := 84, attributes := #[] }, { accessFlags := 1, nameIndex := 23, descriptorIndex := 84, attributes := #[] }, { accessFlags := 1, nameIndex := 26, descriptorIndex := 84, attributes := #[] }, { accessFlags := 1, nameIndex := 30, descriptorIndex := 84, attributes := #[] }, { accessFlags := 1, nameIndex := 33, descriptorIndex := 90, attributes := #[] }, { accessFlags := 1, nameIndex := 37, descriptorIndex := 84, attributes := #[] }, { accessFlags := 1, nameIndex := 40, descriptorIndex := 84, attributes := #[] }, { accessFlags := 1, nameIndex := 43, descriptorIndex := 84, attributes := #[] }, { accessFlags := 1, nameIndex := 46, descriptorIndex := 84, attributes := #[] }, { accessFlags := 1, nameIndex := 49, descriptorIndex := 84, attributes := #[] }, { accessFlags := 1, nameIndex := 52, descriptorIndex := 84, attributes := #[] }] 49 2 #[] #[{ accessFlags := 18, nameIndex := 11, descriptorIndex := 12, attributes := #[] }, { accessFlags := 18, nameIndex := 15, descriptorIndex := 16, attributes := #[] }, { accessFlags := 18, nameIndex := 19, descriptorIndex := 20, attributes := #[] }, { accessFlags := 18, nameIndex := 23, descriptorIndex := 12, attributes := #[] }, { accessFlags := 18, nameIndex := 26, descriptorIndex := 27, attributes := #[] }, { accessFlags := 18, nameIndex := 30, descriptorIndex := 12, attributes := #[] }, { accessFlags := 18, nameIndex := 33, descriptorIndex := 34, attributes := #[] }, { accessFlags := 18, nameIndex := 37, descriptorIndex := 12, attributes := #[] }, { accessFlags := 18, nameIndex := 40, descriptorIndex := 12, attributes := #[] }, { accessFlags := 18, nameIndex := 43, descriptorIndex := 12, attributes := #[] }, { accessFlags := 18, nameIndex := 46, descriptorIndex := 12, attributes := #[] }, { accessFlags := 18, nameIndex := 49, descriptorIndex := 12, attributes := #[] }, { accessFlags := 18, nameIndex := 52, descriptorIndex := 53, attributes := #[] }])
  fields := #[{ name := "text", type := (.object "java/lang/String"), accessFlags := 18, slot := 0, constantValue := 0 }, { name := "prefix", type := (.object "com/example/operatory/operatory/fhir/SearchValue$Prefix"), accessFlags := 18, slot := 1, constantValue := 0 }, { name := "number", type := (.object "java/math/BigDecimal"), accessFlags := 18, slot := 2, constantValue := 0 }, { name := "date", type := (.object "java/lang/String"), accessFlags := 18, slot := 3, constantValue := 0 }, { name := "precision", type := (.object "com/example/operatory/operatory/fhir/SearchValue$Precision"), accessFlags := 18, slot := 4, constantValue := 0 }, { name := "system", type := (.object "java/lang/String"), accessFlags := 18, slot := 5, constantValue := 0 }, { name := "noSystem", type := .boolean, accessFlags := 18, slot := 6, constantValue := 0 }, { name := "code", type := (.object "java/lang/String"), accessFlags := 18, slot := 7, constantValue := 0 }, { name := "value", type := (.object "java/lang/String"), accessFlags := 18, slot := 8, constantValue := 0 }, { name := "type", type := (.object "java/lang/String"), accessFlags := 18, slot := 9, constantValue := 0 }, { name := "id", type := (.object "java/lang/String"), accessFlags := 18, slot := 10, constantValue := 0 }, { name := "url", type := (.object "java/lang/String"), accessFlags := 18, slot := 11, constantValue := 0 }, { name := "missing", type := (.object "java/lang/Boolean"), accessFlags := 18, slot := 12, constantValue := 0 }]
  methods := #[k9m0, k9m1, k9m2, k9m3, k9m4, k9m5, k9m6, k9m7, k9m8, k9m9, k9m10, k9m11, k9m12, k9m13, k9m14]
  instanceTypes := #[(.object "java/lang/String"), (.object "com/example/operatory/operatory/fhir/SearchValue$Prefix"), (.object "java/math/BigDecimal"), (.object "java/lang/String"), (.object "com/example/operatory/operatory/fhir/SearchValue$Precision"), (.object "java/lang/String"), .boolean, (.object "java/lang/String"), (.object "java/lang/String"), (.object "java/lang/String"), (.object "java/lang/String"), (.object "java/lang/String"), (.object "java/lang/Boolean")]
  staticTypes := #[]
  resolved := Array.replicate 105 none
  statics := none }

def pool10 : Array CpInfo := pool [(1, .fieldref 2 3), (0, .class_ 4), (0, .nameAndType 5 6), (0, u "java/util/Optional"), (0, u "EMPTY"), (0, u "Ljava/util/Optional;"), (0, .methodref 8 9), (0, .class_ 10), (0, .nameAndType 11 12), (0, u "java/lang/Object"), (0, u "<init>"), (0, u "()V"), (0, .fieldref 2 14), (0, .nameAndType 15 16), (0, u "value"), (0, u "Ljava/lang/Object;"), (5, u "(Ljava/lang/Object;)Ljava/lang/Object;"), (0, .methodref 2 24), (0, .nameAndType 11 25), (0, u "(Ljava/lang/Object;)V"), (20, u "()Z"), (17, u "ofNullable"), (0, u "(Ljava/lang/Object;)Ljava/util/Optional;"), (2, u "isPresent"), (96, u "orElse")] 21

def k10c0 : Code := { maxStack := 2, maxLocals := 2, code := jdk_32_method_2_code, exceptionTable := #[], attributes := #[] }
def k10m0 : Method := { name := "<init>", desc := "(Ljava/lang/Object;)V", sig := { parameters := [(.object "java/lang/Object")], returnType := none }, accessFlags := 2, code := some k10c0 }
def k10c1 : Code := { maxStack := 3, maxLocals := 1, code := jdk_32_method_4_code, exceptionTable := #[], attributes := #[] }
def k10m1 : Method := { name := "ofNullable", desc := "(Ljava/lang/Object;)Ljava/util/Optional;", sig := { parameters := [(.object "java/lang/Object")], returnType := some (.object "java/util/Optional") }, accessFlags := 9, code := some k10c1 }
def k10c2 : Code := { maxStack := 1, maxLocals := 1, code := jdk_32_method_6_code, exceptionTable := #[], attributes := #[] }
def k10m2 : Method := { name := "isPresent", desc := "()Z", sig := { parameters := [], returnType := some .boolean }, accessFlags := 1, code := some k10c2 }
def k10c3 : Code := { maxStack := 1, maxLocals := 2, code := jdk_32_method_15_code, exceptionTable := #[], attributes := #[] }
def k10m3 : Method := { name := "orElse", desc := "(Ljava/lang/Object;)Ljava/lang/Object;", sig := { parameters := [(.object "java/lang/Object")], returnType := some (.object "java/lang/Object") }, accessFlags := 1, code := some k10c3 }
/-- java/util/Optional -/
def k10 : Class := { plain "java/util/Optional" (some 0) with
  accessFlags := 49
  interfaces := #[]
  cf := some (fileOf pool10 2 #[] #[{ accessFlags := 2, nameIndex := 11, descriptorIndex := 25, attributes := #[] }, { accessFlags := 9, nameIndex := 64, descriptorIndex := 65, attributes := #[] }, { accessFlags := 1, nameIndex := 68, descriptorIndex := 46, attributes := #[] }, { accessFlags := 1, nameIndex := 165, descriptorIndex := 22, attributes := #[] }] 49 8 #[] #[{ accessFlags := 26, nameIndex := 5, descriptorIndex := 6, attributes := #[] }, { accessFlags := 18, nameIndex := 15, descriptorIndex := 16, attributes := #[] }])
  fields := #[{ name := "EMPTY", type := (.object "java/util/Optional"), accessFlags := 26, slot := 0, constantValue := 0 }, { name := "value", type := (.object "java/lang/Object"), accessFlags := 18, slot := 0, constantValue := 0 }]
  methods := #[k10m0, k10m1, k10m2, k10m3]
  instanceTypes := #[(.object "java/lang/Object")]
  staticTypes := #[(.object "java/util/Optional")]
  resolved := Array.replicate 187 none
  statics := some 1 }

def pool11 : Array CpInfo := pool [(4, .class_ 6), (1, u "java/lang/Object"), (0, u "<init>"), (0, u "()V"), (5, .class_ 16), (1, u "java/lang/StringLatin1"), (73, u "canEncode"), (14, u "(C)Z"), (15, u "$assertionsDisabled"), (0, u "Z"), (98, .class_ 223), (1, u "java/lang/StringLatin1$LinesSpliterator"), (156, u "toBytes"), (1, u "(C)[B"), (7, .class_ 391), (0, u "java/lang/StringLatin1$CharsSpliterator")] 3

def k11m0 : Method := { name := "<init>", desc := "()V", sig := { parameters := [], returnType := none }, accessFlags := 0, code := none }
def k11c1 : Code := { maxStack := 2, maxLocals := 1, code := jdk_43_method_3_code, exceptionTable := #[], attributes := #[] }
def k11m1 : Method := { name := "canEncode", desc := "(C)Z", sig := { parameters := [.char], returnType := some .boolean }, accessFlags := 9, code := some k11c1 }
def k11c2 : Code := { maxStack := 4, maxLocals := 1, code := jdk_43_method_46_code, exceptionTable := #[], attributes := #[] }
def k11m2 : Method := { name := "toBytes", desc := "(C)[B", sig := { parameters := [.char], returnType := some (.array .byte) }, accessFlags := 9, code := some k11c2 }
/-- java/lang/StringLatin1 -/
def k11 : Class := { plain "java/lang/StringLatin1" (some 0) with
  accessFlags := 48
  interfaces := #[]
  cf := some (fileOf pool11 14 #[.nestMembers #[390, 221]] #[{ accessFlags := 0, nameIndex := 7, descriptorIndex := 8, attributes := #[] }, { accessFlags := 9, nameIndex := 90, descriptorIndex := 105, attributes := #[] }, { accessFlags := 9, nameIndex := 380, descriptorIndex := 382, attributes := #[] }] 48 4 #[] #[{ accessFlags := 4120, nameIndex := 121, descriptorIndex := 122, attributes := #[] }])
  fields := #[{ name := "$assertionsDisabled", type := .boolean, accessFlags := 4120, slot := 0, constantValue := 0 }]
  methods := #[k11m0, k11m1, k11m2]
  instanceTypes := #[]
  staticTypes := #[.boolean]
  resolved := Array.replicate 395 none
  statics := none }

def pool12 : Array CpInfo := pool [(2, .class_ 4), (1, u "java/lang/Object"), (0, u "<init>"), (0, u "()V"), (17, .class_ 26), (1, u "jdk/internal/util/Preconditions"), (28, .class_ 56), (0, u "jdk/internal/util/Preconditions$4"), (57, .class_ 115), (0, u "jdk/internal/util/Preconditions$1"), (7, u "SIOOBE_FORMATTER"), (0, u "Ljava/util/function/BiFunction;"), (0, .class_ 126), (0, u "jdk/internal/util/Preconditions$2"), (3, u "AIOOBE_FORMATTER"), (0, .class_ 132), (0, u "jdk/internal/util/Preconditions$3"), (3, u "IOOBE_FORMATTER")] 57

def k12m0 : Method := { name := "<init>", desc := "()V", sig := { parameters := [], returnType := none }, accessFlags := 1, code := none }
/-- jdk/internal/util/Preconditions -/
def k12 : Class := { plain "jdk/internal/util/Preconditions" (some 0) with
  accessFlags := 33
  interfaces := #[]
  cf := some (fileOf pool12 24 #[.nestMembers #[55, 131, 125, 114]] #[{ accessFlags := 1, nameIndex := 5, descriptorIndex := 6, attributes := #[] }] 33 2 #[] #[{ accessFlags := 25, nameIndex := 123, descriptorIndex := 124, attributes := #[] }, { accessFlags := 25, nameIndex := 130, descriptorIndex := 124, attributes := #[] }, { accessFlags := 25, nameIndex := 136, descriptorIndex := 124, attributes := #[] }])
  fields := #[{ name := "SIOOBE_FORMATTER", type := (.object "java/util/function/BiFunction"), accessFlags := 25, slot := 0, constantValue := 0 }, { name := "AIOOBE_FORMATTER", type := (.object "java/util/function/BiFunction"), accessFlags := 25, slot := 1, constantValue := 0 }, { name := "IOOBE_FORMATTER", type := (.object "java/util/function/BiFunction"), accessFlags := 25, slot := 2, constantValue := 0 }]
  methods := #[k12m0]
  instanceTypes := #[]
  staticTypes := #[(.object "java/util/function/BiFunction"), (.object "java/util/function/BiFunction"), (.object "java/util/function/BiFunction")]
  resolved := Array.replicate 194 none
  statics := some 2 }

def pool13 : Array CpInfo := pool [(9, u "<init>"), (6, .class_ 18), (1, u "java/lang/Object"), (0, u "()V"), (1, .class_ 23), (1, u "jdk/internal/util/ArraysSupport"), (0, u "LOG2_ARRAY_LONG_INDEX_SCALE"), (0, u "I"), (2, u "U"), (0, u "Ljdk/internal/misc/Unsafe;"), (8, u "BIG_ENDIAN"), (0, u "Z"), (8, u "LOG2_BYTE_BIT_SIZE"), (4, u "LOG2_ARRAY_INT_INDEX_SCALE"), (54, u "JLA"), (0, u "Ljdk/internal/access/JavaLangAccess;"), (11, u "LOG2_ARRAY_BOOLEAN_INDEX_SCALE"), (9, u "LOG2_ARRAY_BYTE_INDEX_SCALE"), (5, u "LOG2_ARRAY_CHAR_INDEX_SCALE"), (5, u "LOG2_ARRAY_SHORT_INDEX_SCALE"), (18, u "LOG2_ARRAY_FLOAT_INDEX_SCALE"), (24, u "LOG2_ARRAY_DOUBLE_INDEX_SCALE"), (89, u "T_BOOLEAN"), (2, u "T_CHAR"), (1, u "T_FLOAT"), (1, u "T_DOUBLE"), (1, u "T_BYTE"), (1, u "T_SHORT"), (1, u "T_INT"), (1, u "T_LONG"), (1, u "SOFT_MAX_ARRAY_LENGTH")] 83

def k13m0 : Method := { name := "<init>", desc := "()V", sig := { parameters := [], returnType := none }, accessFlags := 2, code := none }
/-- jdk/internal/util/ArraysSupport -/
def k13 : Class := { plain "jdk/internal/util/ArraysSupport" (some 0) with
  accessFlags := 33
  interfaces := #[]
  cf := some (fileOf pool13 21 #[] #[{ accessFlags := 2, nameIndex := 9, descriptorIndex := 19, attributes := #[] }] 33 16 #[] #[{ accessFlags := 24, nameIndex := 28, descriptorIndex := 29, attributes := #[] }, { accessFlags := 26, nameIndex := 38, descriptorIndex := 39, attributes := #[] }, { accessFlags := 25, nameIndex := 121, descriptorIndex := 25, attributes := #[] }, { accessFlags := 25, nameIndex := 131, descriptorIndex := 25, attributes := #[] }, { accessFlags := 25, nameIndex := 137, descriptorIndex := 25, attributes := #[] }, { accessFlags := 25, nameIndex := 143, descriptorIndex := 25, attributes := #[] }, { accessFlags := 25, nameIndex := 53, descriptorIndex := 25, attributes := #[] }, { accessFlags := 25, nameIndex := 24, descriptorIndex := 25, attributes := #[] }, { accessFlags := 25, nameIndex := 162, descriptorIndex := 25, attributes := #[] }, { accessFlags := 25, nameIndex := 187, descriptorIndex := 25, attributes := #[] }, { accessFlags := 26, nameIndex := 48, descriptorIndex := 25, attributes := #[] }, { accessFlags := 25, nameIndex := 277, descriptorIndex := 25, attributes := #[] }, { accessFlags := 25, nameIndex := 280, descriptorIndex := 25, attributes := #[] }, { accessFlags := 25, nameIndex := 282, descriptorIndex := 25, attributes := #[] }, { accessFlags := 25, nameIndex := 284, descriptorIndex := 25, attributes := #[] }, { accessFlags := 25, nameIndex := 286, descriptorIndex := 25, attributes := #[] }, { accessFlags := 25, nameIndex := 288, descriptorIndex := 25, attributes := #[] }, { accessFlags := 25, nameIndex := 290, descriptorIndex := 25, attributes := #[] }, { accessFlags := 25, nameIndex := 292, descriptorIndex := 25, attributes := #[] }, { accessFlags := 26, nameIndex := 108, descriptorIndex := 109, attributes := #[] }, { accessFlags := 25, nameIndex := 294, descriptorIndex := 25, attributes := #[] }])
  fields := #[{ name := "U", type := (.object "jdk/internal/misc/Unsafe"), accessFlags := 24, slot := 0, constantValue := 0 }, { name := "BIG_ENDIAN", type := .boolean, accessFlags := 26, slot := 1, constantValue := 0 }, { name := "LOG2_ARRAY_BOOLEAN_INDEX_SCALE", type := .int, accessFlags := 25, slot := 2, constantValue := 0 }, { name := "LOG2_ARRAY_BYTE_INDEX_SCALE", type := .int, accessFlags := 25, slot := 3, constantValue := 0 }, { name := "LOG2_ARRAY_CHAR_INDEX_SCALE", type := .int, accessFlags := 25, slot := 4, constantValue := 0 }, { name := "LOG2_ARRAY_SHORT_INDEX_SCALE", type := .int, accessFlags := 25, slot := 5, constantValue := 0 }, { name := "LOG2_ARRAY_INT_INDEX_SCALE", type := .int, accessFlags := 25, slot := 6, constantValue := 0 }, { name := "LOG2_ARRAY_LONG_INDEX_SCALE", type := .int, accessFlags := 25, slot := 7, constantValue := 0 }, { name := "LOG2_ARRAY_FLOAT_INDEX_SCALE", type := .int, accessFlags := 25, slot := 8, constantValue := 0 }, { name := "LOG2_ARRAY_DOUBLE_INDEX_SCALE", type := .int, accessFlags := 25, slot := 9, constantValue := 0 }, { name := "LOG2_BYTE_BIT_SIZE", type := .int, accessFlags := 26, slot := 10, constantValue := 0 }, { name := "T_BOOLEAN", type := .int, accessFlags := 25, slot := 11, constantValue := 0 }, { name := "T_CHAR", type := .int, accessFlags := 25, slot := 12, constantValue := 0 }, { name := "T_FLOAT", type := .int, accessFlags := 25, slot := 13, constantValue := 0 }, { name := "T_DOUBLE", type := .int, accessFlags := 25, slot := 14, constantValue := 0 }, { name := "T_BYTE", type := .int, accessFlags := 25, slot := 15, constantValue := 0 }, { name := "T_SHORT", type := .int, accessFlags := 25, slot := 16, constantValue := 0 }, { name := "T_INT", type := .int, accessFlags := 25, slot := 17, constantValue := 0 }, { name := "T_LONG", type := .int, accessFlags := 25, slot := 18, constantValue := 0 }, { name := "JLA", type := (.object "jdk/internal/access/JavaLangAccess"), accessFlags := 26, slot := 19, constantValue := 0 }, { name := "SOFT_MAX_ARRAY_LENGTH", type := .int, accessFlags := 25, slot := 20, constantValue := 0 }]
  methods := #[k13m0]
  instanceTypes := #[]
  staticTypes := #[(.object "jdk/internal/misc/Unsafe"), .boolean, .int, .int, .int, .int, .int, .int, .int, .int, .int, .int, .int, .int, .int, .int, .int, .int, .int, (.object "jdk/internal/access/JavaLangAccess"), .int]
  resolved := Array.replicate 378 none
  statics := none }

def pool14 : Array CpInfo := pool [(1, u "java/lang/Cloneable"), (0, .class_ 1), (0, u "java/lang/Object"), (0, .class_ 3)] 3

/-- java/lang/Cloneable -/
def k14 : Class := { plain "java/lang/Cloneable" (some 0) with
  accessFlags := 1537
  interfaces := #[]
  cf := some (fileOf pool14 2 #[] #[] 1537 4 #[] #[])
  fields := #[]
  methods := #[]
  instanceTypes := #[]
  staticTypes := #[]
  resolved := Array.replicate 8 none
  statics := none }

/-- the primitive byte -/
def k15 : Class := { plain "byte" none with kind := .primitive 'B', accessFlags := 0x411 }
/-- [B -/
def k16 : Class := { plain "[B" (some 0) with kind := .array 15 .byte, interfaces := #[14, 2], accessFlags := 1041 }

/-- the primitive char -/
def k17 : Class := { plain "char" none with kind := .primitive 'C', accessFlags := 0x411 }
/-- [C -/
def k18 : Class := { plain "[C" (some 0) with kind := .array 17 .char, interfaces := #[14, 2], accessFlags := 1041 }

/-- the primitive int -/
def k19 : Class := { plain "int" none with kind := .primitive 'I', accessFlags := 0x411 }
/-- [I -/
def k20 : Class := { plain "[I" (some 0) with kind := .array 19 .int, interfaces := #[14, 2], accessFlags := 1041 }

def heap : Heap := #[{ cls := 7, slots := #[.long 0, .int 1, .null, .int 0, .null, .int 0, .int 0], vm := .statics 7 },
  { cls := 10, slots := #[.ref 3], vm := .statics 10 },
  { cls := 12, slots := #[.null, .null, .null], vm := .statics 12 },
  { cls := 10, slots := #[.null], vm := .none }]
def classes : Array Class := #[k0, k1, k2, k3, k4, k5, k6, k7, k8, k9, k10, k11, k12, k13, k14, k15, k16, k17, k18, k19, k20]
def interned : List (Array UInt16 × Addr) := []
def slotsUsed : Nat := 12
def theMethod : MethodId := ⟨1, 3⟩
def args0 : Array Value := #[.int 5, .int 5, .int 5, .int 5, .int 5]
def aboutOver (below : List Frame) : State where
  vm := { classes := classes, interned := interned.toArray }
  heap := heap
  slotsUsed := slotsUsed
  threads := #[{ frames := .invoking theMethod args0 :: below }]
def below0 : List Frame := [.native { method := ⟨0, 0⟩, args := #[] }]
def about1 : State := aboutOver below0
def p0 : Program := .bare "" "" ""
def e0 : Env := launch0.env 0 0 0
theorem w_frames : about1.frames = Frame.invoking theMethod args0 :: below0 := rfl
set_option maxRecDepth 65536 in
theorem w_args : argsFit about1.vm theMethod args0 = true := by decide +kernel
set_option maxRecDepth 65536 in
theorem w_heap : heapFits about1 = true := by decide +kernel
set_option maxRecDepth 65536 in
theorem w_runnable : about1.curStatus? = some .runnable := by decide +kernel
set_option maxRecDepth 65536 in
theorem w_alone : about1.alone = true := by decide +kernel
set_option maxRecDepth 65536 in
theorem w_named : about1.methodNamed? x = some theMethod := by decide +kernel
set_option maxRecDepth 65536 in
theorem w_hears : about1.hears theMethod below0 = true := by decide +kernel
set_option maxRecDepth 65536 in
theorem w_ripe : about1.ripe theMethod args0 below0 = true := by decide +kernel
theorem w_running : about1.status = .running := rfl
set_option maxRecDepth 65536 in
theorem w_room : about1.hasRoom e0.platform room_1 = true :=
  launch0.hasRoom_least _ room_1 (by decide +kernel) (by decide +kernel) (by decide +kernel) (by decide +kernel) (by decide +kernel) (by decide +kernel)
theorem allAtoms_all (ts : List Jvm.Cond) (a : Array Jvm.Value) (st : Jvm.State) : (allAtoms ts).before a st = ts.all (fun c => c.before a st) := by
  induction ts with
  | nil => rfl
  | cons c t ih =>
    show (Jvm.Cond.and c (allAtoms t)).before a st = _
    rw [Jvm.Cond.before_and, ih, List.all_cons]
def words1 : List Jvm.Cond := Jvm.Cond.code x code maxLocals ret :: tables_1
/-- a 'code' word, met by the world's own term for the bytes: nothing is compared byte by byte -/
theorem code_word {y : MethodName} {bytes : ByteArray} {mx : Nat} {rt : Option FieldType} {a : Array Value} {s : State} {m : MethodId} {meth : Method} {c : Code} (h1 : s.methodNamed? y = some m) (h2 : s.vm.method? m = some meth) (h3 : meth.code = some c) (h4 : c.code = bytes)
    (h5 : (c.maxLocals == mx && c.exceptionTable.isEmpty && decide (c.maxStack ≤ mostOperands) && decide (meth.sig.returnType = rt) && !meth.locks && decide (parseMethodDescriptor y.desc = some meth.sig)) = true) : (Jvm.Cond.code y bytes mx rt).before a s = true := by
  simp only [Bool.and_eq_true, beq_iff_eq, Bool.not_eq_true', decide_eq_true_eq] at h5
  obtain ⟨⟨⟨⟨⟨g1, g2⟩, g3⟩, g4⟩, g5⟩, g6⟩ := h5
  simp [Cond.before, Cond.holds, Cond.value, h1, h2, h3, h4, g1, g2, g3, g4, g5, g6]
def isCode : Jvm.Cond → Bool
  | .code _ _ _ _ => true
  | _ => false
theorem all_split {L : List Jvm.Cond} {P : Jvm.Cond → Bool} (h1 : L.all (fun c => isCode c || P c) = true) (h2 : ∀ c ∈ L.filter isCode, P c = true) : L.all P = true := by
  refine List.all_eq_true.mpr fun c hc => ?_
  have h := List.all_eq_true.mp h1 c hc
  rcases Bool.eq_false_or_eq_true (isCode c) with hi | hi
  · exact h2 c (List.mem_filter.mpr ⟨hc, hi⟩)
  · simpa [hi] using h
set_option maxRecDepth 65536 in
theorem w_c0 : (Jvm.Cond.code x code maxLocals ret).before args0 about1 = true := code_word (m := ⟨1, 3⟩) (meth := k1m3) (c := k1c3) (by decide +kernel) rfl rfl rfl (by decide +kernel)
set_option maxRecDepth 65536 in
theorem w_c1 : (Jvm.Cond.code ({ cls := "com/example/operatory/operatory/fhir/AlternativeOfReferencePinLaw", name := "str", desc := "(I)Ljava/lang/String;" } : Jvm.MethodName) method_2_code (4 : Nat) (Option.some (Jvm.ClassFile.FieldType.object "java/lang/String"))).before args0 about1 = true := code_word (m := ⟨1, 1⟩) (meth := k1m1) (c := k1c1) (by decide +kernel) rfl rfl rfl (by decide +kernel)
set_option maxRecDepth 65536 in
theorem w_c2 : (Jvm.Cond.code ({ cls := "java/lang/String", name := "<init>", desc := "([C)V" } : Jvm.MethodName) jdk_42_method_3_code (2 : Nat) (Option.none : Option Jvm.ClassFile.FieldType)).before args0 about1 = true := code_word (m := ⟨7, 1⟩) (meth := k7m1) (c := k7c1) (by decide +kernel) rfl rfl rfl (by decide +kernel)
set_option maxRecDepth 65536 in
theorem w_c3 : (Jvm.Cond.code ({ cls := "java/lang/String", name := "<init>", desc := "([CIILjava/lang/Void;)V" } : Jvm.MethodName) jdk_42_method_149_code (6 : Nat) (Option.none : Option Jvm.ClassFile.FieldType)).before args0 about1 = true := code_word (m := ⟨7, 4⟩) (meth := k7m4) (c := k7c4) (by decide +kernel) rfl rfl rfl (by decide +kernel)
set_option maxRecDepth 65536 in
theorem w_c4 : (Jvm.Cond.code ({ cls := "java/lang/Object", name := "<init>", desc := "()V" } : Jvm.MethodName) object_method_1_code (1 : Nat) (Option.none : Option Jvm.ClassFile.FieldType)).before args0 about1 = true := code_word (m := ⟨0, 0⟩) (meth := k0m0) (c := k0c0) (by decide +kernel) rfl rfl rfl (by decide +kernel)
set_option maxRecDepth 65536 in
theorem w_c5 : (Jvm.Cond.code ({ cls := "java/lang/StringUTF16", name := "compress", desc := "([CII)[B" } : Jvm.MethodName) jdk_52_method_16_code (6 : Nat) (Option.some (Jvm.ClassFile.FieldType.array Jvm.ClassFile.FieldType.byte))).before args0 about1 = true := code_word (m := ⟨8, 2⟩) (meth := k8m2) (c := k8c2) (by decide +kernel) rfl rfl rfl (by decide +kernel)
set_option maxRecDepth 65536 in
theorem w_c6 : (Jvm.Cond.code ({ cls := "java/lang/StringUTF16", name := "compress", desc := "([CI[BII)I" } : Jvm.MethodName) jdk_52_method_21_code (7 : Nat) (Option.some Jvm.ClassFile.FieldType.int)).before args0 about1 = true := code_word (m := ⟨8, 3⟩) (meth := k8m3) (c := k8c3) (by decide +kernel) rfl rfl rfl (by decide +kernel)
set_option maxRecDepth 65536 in
theorem w_c7 : (Jvm.Cond.code ({ cls := "java/lang/StringUTF16", name := "coderFromArrayLen", desc := "([BI)B" } : Jvm.MethodName) jdk_52_method_15_code (2 : Nat) (Option.some Jvm.ClassFile.FieldType.byte)).before args0 about1 = true := code_word (m := ⟨8, 1⟩) (meth := k8m1) (c := k8c1) (by decide +kernel) rfl rfl rfl (by decide +kernel)
set_option maxRecDepth 65536 in
theorem w_c8 : (Jvm.Cond.code ({ cls := "com/example/operatory/operatory/fhir/SearchValue$Alternative", name := "ofReference", desc := "(Ljava/lang/String;Ljava/lang/String;Ljava/lang/String;Ljava/lang/String;)Lcom/example/operatory/operatory/fhir/SearchValue$Alternative;" } : Jvm.MethodName) prog_5_method_7_code (4 : Nat) (Option.some (Jvm.ClassFile.FieldType.object "com/example/operatory/operatory/fhir/SearchValue$Alternative"))).before args0 about1 = true := code_word (m := ⟨9, 1⟩) (meth := k9m1) (c := k9c1) (by decide +kernel) rfl rfl rfl (by decide +kernel)
set_option maxRecDepth 65536 in
theorem w_c9 : (Jvm.Cond.code ({ cls := "com/example/operatory/operatory/fhir/SearchValue$Alternative", name := "<init>", desc := "(Ljava/lang/String;Lcom/example/operatory/operatory/fhir/SearchValue$Prefix;Ljava/math/BigDecimal;Ljava/lang/String;Lcom/example/operatory/operatory/fhir/SearchValue$Precision;Ljava/lang/String;ZLjava/lang/String;Ljava/lang/String;Ljava/lang/String;Ljava/lang/String;Ljava/lang/String;Ljava/lang/Boolean;)V" } : Jvm.MethodName) prog_5_method_1_code (14 : Nat) (Option.none : Option Jvm.ClassFile.FieldType)).before args0 about1 = true := code_word (m := ⟨9, 0⟩) (meth := k9m0) (c := k9c0) (by decide +kernel) rfl rfl rfl (by decide +kernel)
set_option maxRecDepth 65536 in
theorem w_c10 : (Jvm.Cond.code ({ cls := "com/example/operatory/operatory/fhir/SearchValue$Alternative", name := "text", desc := "()Ljava/lang/String;" } : Jvm.MethodName) prog_5_method_8_code (1 : Nat) (Option.some (Jvm.ClassFile.FieldType.object "java/lang/String"))).before args0 about1 = true := code_word (m := ⟨9, 2⟩) (meth := k9m2) (c := k9c2) (by decide +kernel) rfl rfl rfl (by decide +kernel)
set_option maxRecDepth 65536 in
theorem w_c11 : (Jvm.Cond.code ({ cls := "com/example/operatory/operatory/fhir/AlternativeOfReferencePinLaw", name := "same", desc := "(Ljava/lang/String;Ljava/lang/String;)Z" } : Jvm.MethodName) method_3_code (2 : Nat) (Option.some Jvm.ClassFile.FieldType.boolean)).before args0 about1 = true := code_word (m := ⟨1, 2⟩) (meth := k1m2) (c := k1c2) (by decide +kernel) rfl rfl rfl (by decide +kernel)
set_option maxRecDepth 65536 in
theorem w_c12 : (Jvm.Cond.code ({ cls := "java/lang/String", name := "equals", desc := "(Ljava/lang/Object;)Z" } : Jvm.MethodName) jdk_42_method_66_code (3 : Nat) (Option.some Jvm.ClassFile.FieldType.boolean)).before args0 about1 = true := code_word (m := ⟨7, 2⟩) (meth := k7m2) (c := k7c2) (by decide +kernel) rfl rfl rfl (by decide +kernel)
set_option maxRecDepth 65536 in
theorem w_c13 : (Jvm.Cond.code ({ cls := "com/example/operatory/operatory/fhir/SearchValue$Alternative", name := "type", desc := "()Ljava/util/Optional;" } : Jvm.MethodName) prog_5_method_17_code (1 : Nat) (Option.some (Jvm.ClassFile.FieldType.object "java/util/Optional"))).before args0 about1 = true := code_word (m := ⟨9, 11⟩) (meth := k9m11) (c := k9c11) (by decide +kernel) rfl rfl rfl (by decide +kernel)
set_option maxRecDepth 65536 in
theorem w_c14 : (Jvm.Cond.code ({ cls := "java/util/Optional", name := "ofNullable", desc := "(Ljava/lang/Object;)Ljava/util/Optional;" } : Jvm.MethodName) jdk_32_method_4_code (1 : Nat) (Option.some (Jvm.ClassFile.FieldType.object "java/util/Optional"))).before args0 about1 = true := code_word (m := ⟨10, 1⟩) (meth := k10m1) (c := k10c1) (by decide +kernel) rfl rfl rfl (by decide +kernel)
set_option maxRecDepth 65536 in
theorem w_c15 : (Jvm.Cond.code ({ cls := "java/util/Optional", name := "<init>", desc := "(Ljava/lang/Object;)V" } : Jvm.MethodName) jdk_32_method_2_code (2 : Nat) (Option.none : Option Jvm.ClassFile.FieldType)).before args0 about1 = true := code_word (m := ⟨10, 0⟩) (meth := k10m0) (c := k10c0) (by decide +kernel) rfl rfl rfl (by decide +kernel)
set_option maxRecDepth 65536 in
theorem w_c16 : (Jvm.Cond.code ({ cls := "java/util/Optional", name := "orElse", desc := "(Ljava/lang/Object;)Ljava/lang/Object;" } : Jvm.MethodName) jdk_32_method_15_code (2 : Nat) (Option.some (Jvm.ClassFile.FieldType.object "java/lang/Object"))).before args0 about1 = true := code_word (m := ⟨10, 3⟩) (meth := k10m3) (c := k10c3) (by decide +kernel) rfl rfl rfl (by decide +kernel)
set_option maxRecDepth 65536 in
theorem w_c17 : (Jvm.Cond.code ({ cls := "com/example/operatory/operatory/fhir/SearchValue$Alternative", name := "id", desc := "()Ljava/util/Optional;" } : Jvm.MethodName) prog_5_method_18_code (1 : Nat) (Option.some (Jvm.ClassFile.FieldType.object "java/util/Optional"))).before args0 about1 = true := code_word (m := ⟨9, 12⟩) (meth := k9m12) (c := k9c12) (by decide +kernel) rfl rfl rfl (by decide +kernel)
set_option maxRecDepth 65536 in
theorem w_c18 : (Jvm.Cond.code ({ cls := "com/example/operatory/operatory/fhir/SearchValue$Alternative", name := "url", desc := "()Ljava/util/Optional;" } : Jvm.MethodName) prog_5_method_19_code (1 : Nat) (Option.some (Jvm.ClassFile.FieldType.object "java/util/Optional"))).before args0 about1 = true := code_word (m := ⟨9, 13⟩) (meth := k9m13) (c := k9c13) (by decide +kernel) rfl rfl rfl (by decide +kernel)
set_option maxRecDepth 65536 in
theorem w_c19 : (Jvm.Cond.code ({ cls := "com/example/operatory/operatory/fhir/SearchValue$Alternative", name := "prefix", desc := "()Ljava/util/Optional;" } : Jvm.MethodName) prog_5_method_9_code (1 : Nat) (Option.some (Jvm.ClassFile.FieldType.object "java/util/Optional"))).before args0 about1 = true := code_word (m := ⟨9, 3⟩) (meth := k9m3) (c := k9c3) (by decide +kernel) rfl rfl rfl (by decide +kernel)
set_option maxRecDepth 65536 in
theorem w_c20 : (Jvm.Cond.code ({ cls := "java/util/Optional", name := "isPresent", desc := "()Z" } : Jvm.MethodName) jdk_32_method_6_code (1 : Nat) (Option.some Jvm.ClassFile.FieldType.boolean)).before args0 about1 = true := code_word (m := ⟨10, 2⟩) (meth := k10m2) (c := k10c2) (by decide +kernel) rfl rfl rfl (by decide +kernel)
set_option maxRecDepth 65536 in
theorem w_c21 : (Jvm.Cond.code ({ cls := "com/example/operatory/operatory/fhir/SearchValue$Alternative", name := "number", desc := "()Ljava/util/Optional;" } : Jvm.MethodName) prog_5_method_10_code (1 : Nat) (Option.some (Jvm.ClassFile.FieldType.object "java/util/Optional"))).before args0 about1 = true := code_word (m := ⟨9, 4⟩) (meth := k9m4) (c := k9c4) (by decide +kernel) rfl rfl rfl (by decide +kernel)
set_option maxRecDepth 65536 in
theorem w_c22 : (Jvm.Cond.code ({ cls := "com/example/operatory/operatory/fhir/SearchValue$Alternative", name := "date", desc := "()Ljava/util/Optional;" } : Jvm.MethodName) prog_5_method_11_code (1 : Nat) (Option.some (Jvm.ClassFile.FieldType.object "java/util/Optional"))).before args0 about1 = true := code_word (m := ⟨9, 5⟩) (meth := k9m5) (c := k9c5) (by decide +kernel) rfl rfl rfl (by decide +kernel)
set_option maxRecDepth 65536 in
theorem w_c23 : (Jvm.Cond.code ({ cls := "com/example/operatory/operatory/fhir/SearchValue$Alternative", name := "precision", desc := "()Ljava/util/Optional;" } : Jvm.MethodName) prog_5_method_12_code (1 : Nat) (Option.some (Jvm.ClassFile.FieldType.object "java/util/Optional"))).before args0 about1 = true := code_word (m := ⟨9, 6⟩) (meth := k9m6) (c := k9c6) (by decide +kernel) rfl rfl rfl (by decide +kernel)
set_option maxRecDepth 65536 in
theorem w_c24 : (Jvm.Cond.code ({ cls := "com/example/operatory/operatory/fhir/SearchValue$Alternative", name := "system", desc := "()Ljava/util/Optional;" } : Jvm.MethodName) prog_5_method_13_code (1 : Nat) (Option.some (Jvm.ClassFile.FieldType.object "java/util/Optional"))).before args0 about1 = true := code_word (m := ⟨9, 7⟩) (meth := k9m7) (c := k9c7) (by decide +kernel) rfl rfl rfl (by decide +kernel)
set_option maxRecDepth 65536 in
theorem w_c25 : (Jvm.Cond.code ({ cls := "com/example/operatory/operatory/fhir/SearchValue$Alternative", name := "code", desc := "()Ljava/util/Optional;" } : Jvm.MethodName) prog_5_method_15_code (1 : Nat) (Option.some (Jvm.ClassFile.FieldType.object "java/util/Optional"))).before args0 about1 = true := code_word (m := ⟨9, 9⟩) (meth := k9m9) (c := k9c9) (by decide +kernel) rfl rfl rfl (by decide +kernel)
set_option maxRecDepth 65536 in
theorem w_c26 : (Jvm.Cond.code ({ cls := "com/example/operatory/operatory/fhir/SearchValue$Alternative", name := "value", desc := "()Ljava/util/Optional;" } : Jvm.MethodName) prog_5_method_16_code (1 : Nat) (Option.some (Jvm.ClassFile.FieldType.object "java/util/Optional"))).before args0 about1 = true := code_word (m := ⟨9, 10⟩) (meth := k9m10) (c := k9c10) (by decide +kernel) rfl rfl rfl (by decide +kernel)
set_option maxRecDepth 65536 in
theorem w_c27 : (Jvm.Cond.code ({ cls := "com/example/operatory/operatory/fhir/SearchValue$Alternative", name := "missing", desc := "()Ljava/util/Optional;" } : Jvm.MethodName) prog_5_method_20_code (1 : Nat) (Option.some (Jvm.ClassFile.FieldType.object "java/util/Optional"))).before args0 about1 = true := code_word (m := ⟨9, 14⟩) (meth := k9m14) (c := k9c14) (by decide +kernel) rfl rfl rfl (by decide +kernel)
set_option maxRecDepth 65536 in
theorem w_c28 : (Jvm.Cond.code ({ cls := "com/example/operatory/operatory/fhir/SearchValue$Alternative", name := "noSystem", desc := "()Z" } : Jvm.MethodName) prog_5_method_14_code (1 : Nat) (Option.some Jvm.ClassFile.FieldType.boolean)).before args0 about1 = true := code_word (m := ⟨9, 8⟩) (meth := k9m8) (c := k9c8) (by decide +kernel) rfl rfl rfl (by decide +kernel)
set_option maxRecDepth 65536 in
theorem w_c29 : (Jvm.Cond.code ({ cls := "java/lang/String", name := "valueOf", desc := "(C)Ljava/lang/String;" } : Jvm.MethodName) jdk_42_method_139_code (1 : Nat) (Option.some (Jvm.ClassFile.FieldType.object "java/lang/String"))).before args0 about1 = true := code_word (m := ⟨7, 3⟩) (meth := k7m3) (c := k7c3) (by decide +kernel) rfl rfl rfl (by decide +kernel)
set_option maxRecDepth 65536 in
theorem w_c30 : (Jvm.Cond.code ({ cls := "java/lang/StringLatin1", name := "canEncode", desc := "(C)Z" } : Jvm.MethodName) jdk_43_method_3_code (1 : Nat) (Option.some Jvm.ClassFile.FieldType.boolean)).before args0 about1 = true := code_word (m := ⟨11, 1⟩) (meth := k11m1) (c := k11c1) (by decide +kernel) rfl rfl rfl (by decide +kernel)
set_option maxRecDepth 65536 in
theorem w_c31 : (Jvm.Cond.code ({ cls := "java/lang/StringLatin1", name := "toBytes", desc := "(C)[B" } : Jvm.MethodName) jdk_43_method_46_code (1 : Nat) (Option.some (Jvm.ClassFile.FieldType.array Jvm.ClassFile.FieldType.byte))).before args0 about1 = true := code_word (m := ⟨11, 2⟩) (meth := k11m2) (c := k11c2) (by decide +kernel) rfl rfl rfl (by decide +kernel)
set_option maxRecDepth 65536 in
theorem w_c32 : (Jvm.Cond.code ({ cls := "java/lang/String", name := "<init>", desc := "([BB)V" } : Jvm.MethodName) jdk_42_method_151_code (3 : Nat) (Option.none : Option Jvm.ClassFile.FieldType)).before args0 about1 = true := code_word (m := ⟨7, 5⟩) (meth := k7m5) (c := k7c5) (by decide +kernel) rfl rfl rfl (by decide +kernel)
def codes1 : List Jvm.Cond := [Jvm.Cond.code x code maxLocals ret, Jvm.Cond.code ({ cls := "com/example/operatory/operatory/fhir/AlternativeOfReferencePinLaw", name := "str", desc := "(I)Ljava/lang/String;" } : Jvm.MethodName) method_2_code (4 : Nat) (Option.some (Jvm.ClassFile.FieldType.object "java/lang/String")), Jvm.Cond.code ({ cls := "java/lang/String", name := "<init>", desc := "([C)V" } : Jvm.MethodName) jdk_42_method_3_code (2 : Nat) (Option.none : Option Jvm.ClassFile.FieldType), Jvm.Cond.code ({ cls := "java/lang/String", name := "<init>", desc := "([CIILjava/lang/Void;)V" } : Jvm.MethodName) jdk_42_method_149_code (6 : Nat) (Option.none : Option Jvm.ClassFile.FieldType), Jvm.Cond.code ({ cls := "java/lang/Object", name := "<init>", desc := "()V" } : Jvm.MethodName) object_method_1_code (1 : Nat) (Option.none : Option Jvm.ClassFile.FieldType), Jvm.Cond.code ({ cls := "java/lang/StringUTF16", name := "compress", desc := "([CII)[B" } : Jvm.MethodName) jdk_52_method_16_code (6 : Nat) (Option.some (Jvm.ClassFile.FieldType.array Jvm.ClassFile.FieldType.byte)), Jvm.Cond.code ({ cls := "java/lang/StringUTF16", name := "compress", desc := "([CI[BII)I" } : Jvm.MethodName) jdk_52_method_21_code (7 : Nat) (Option.some Jvm.ClassFile.FieldType.int), Jvm.Cond.code ({ cls := "java/lang/StringUTF16", name := "coderFromArrayLen", desc := "([BI)B" } : Jvm.MethodName) jdk_52_method_15_code (2 : Nat) (Option.some Jvm.ClassFile.FieldType.byte), Jvm.Cond.code ({ cls := "com/example/operatory/operatory/fhir/SearchValue$Alternative", name := "ofReference", desc := "(Ljava/lang/String;Ljava/lang/String;Ljava/lang/String;Ljava/lang/String;)Lcom/example/operatory/operatory/fhir/SearchValue$Alternative;" } : Jvm.MethodName) prog_5_method_7_code (4 : Nat) (Option.some (Jvm.ClassFile.FieldType.object "com/example/operatory/operatory/fhir/SearchValue$Alternative")), Jvm.Cond.code ({ cls := "com/example/operatory/operatory/fhir/SearchValue$Alternative", name := "<init>", desc := "(Ljava/lang/String;Lcom/example/operatory/operatory/fhir/SearchValue$Prefix;Ljava/math/BigDecimal;Ljava/lang/String;Lcom/example/operatory/operatory/fhir/SearchValue$Precision;Ljava/lang/String;ZLjava/lang/String;Ljava/lang/String;Ljava/lang/String;Ljava/lang/String;Ljava/lang/String;Ljava/lang/Boolean;)V" } : Jvm.MethodName) prog_5_method_1_code (14 : Nat) (Option.none : Option Jvm.ClassFile.FieldType), Jvm.Cond.code ({ cls := "com/example/operatory/operatory/fhir/SearchValue$Alternative", name := "text", desc := "()Ljava/lang/String;" } : Jvm.MethodName) prog_5_method_8_code (1 : Nat) (Option.some (Jvm.ClassFile.FieldType.object "java/lang/String")), Jvm.Cond.code ({ cls := "com/example/operatory/operatory/fhir/AlternativeOfReferencePinLaw", name := "same", desc := "(Ljava/lang/String;Ljava/lang/String;)Z" } : Jvm.MethodName) method_3_code (2 : Nat) (Option.some Jvm.ClassFile.FieldType.boolean), Jvm.Cond.code ({ cls := "java/lang/String", name := "equals", desc := "(Ljava/lang/Object;)Z" } : Jvm.MethodName) jdk_42_method_66_code (3 : Nat) (Option.some Jvm.ClassFile.FieldType.boolean), Jvm.Cond.code ({ cls := "com/example/operatory/operatory/fhir/SearchValue$Alternative", name := "type", desc := "()Ljava/util/Optional;" } : Jvm.MethodName) prog_5_method_17_code (1 : Nat) (Option.some (Jvm.ClassFile.FieldType.object "java/util/Optional")), Jvm.Cond.code ({ cls := "java/util/Optional", name := "ofNullable", desc := "(Ljava/lang/Object;)Ljava/util/Optional;" } : Jvm.MethodName) jdk_32_method_4_code (1 : Nat) (Option.some (Jvm.ClassFile.FieldType.object "java/util/Optional")), Jvm.Cond.code ({ cls := "java/util/Optional", name := "<init>", desc := "(Ljava/lang/Object;)V" } : Jvm.MethodName) jdk_32_method_2_code (2 : Nat) (Option.none : Option Jvm.ClassFile.FieldType), Jvm.Cond.code ({ cls := "java/util/Optional", name := "orElse", desc := "(Ljava/lang/Object;)Ljava/lang/Object;" } : Jvm.MethodName) jdk_32_method_15_code (2 : Nat) (Option.some (Jvm.ClassFile.FieldType.object "java/lang/Object")), Jvm.Cond.code ({ cls := "com/example/operatory/operatory/fhir/SearchValue$Alternative", name := "id", desc := "()Ljava/util/Optional;" } : Jvm.MethodName) prog_5_method_18_code (1 : Nat) (Option.some (Jvm.ClassFile.FieldType.object "java/util/Optional")), Jvm.Cond.code ({ cls := "com/example/operatory/operatory/fhir/SearchValue$Alternative", name := "url", desc := "()Ljava/util/Optional;" } : Jvm.MethodName) prog_5_method_19_code (1 : Nat) (Option.some (Jvm.ClassFile.FieldType.object "java/util/Optional")), Jvm.Cond.code ({ cls := "com/example/operatory/operatory/fhir/SearchValue$Alternative", name := "prefix", desc := "()Ljava/util/Optional;" } : Jvm.MethodName) prog_5_method_9_code (1 : Nat) (Option.some (Jvm.ClassFile.FieldType.object "java/util/Optional")), Jvm.Cond.code ({ cls := "java/util/Optional", name := "isPresent", desc := "()Z" } : Jvm.MethodName) jdk_32_method_6_code (1 : Nat) (Option.some Jvm.ClassFile.FieldType.boolean), Jvm.Cond.code ({ cls := "com/example/operatory/operatory/fhir/SearchValue$Alternative", name := "number", desc := "()Ljava/util/Optional;" } : Jvm.MethodName) prog_5_method_10_code (1 : Nat) (Option.some (Jvm.ClassFile.FieldType.object "java/util/Optional")), Jvm.Cond.code ({ cls := "com/example/operatory/operatory/fhir/SearchValue$Alternative", name := "date", desc := "()Ljava/util/Optional;" } : Jvm.MethodName) prog_5_method_11_code (1 : Nat) (Option.some (Jvm.ClassFile.FieldType.object "java/util/Optional")), Jvm.Cond.code ({ cls := "com/example/operatory/operatory/fhir/SearchValue$Alternative", name := "precision", desc := "()Ljava/util/Optional;" } : Jvm.MethodName) prog_5_method_12_code (1 : Nat) (Option.some (Jvm.ClassFile.FieldType.object "java/util/Optional")), Jvm.Cond.code ({ cls := "com/example/operatory/operatory/fhir/SearchValue$Alternative", name := "system", desc := "()Ljava/util/Optional;" } : Jvm.MethodName) prog_5_method_13_code (1 : Nat) (Option.some (Jvm.ClassFile.FieldType.object "java/util/Optional")), Jvm.Cond.code ({ cls := "com/example/operatory/operatory/fhir/SearchValue$Alternative", name := "code", desc := "()Ljava/util/Optional;" } : Jvm.MethodName) prog_5_method_15_code (1 : Nat) (Option.some (Jvm.ClassFile.FieldType.object "java/util/Optional")), Jvm.Cond.code ({ cls := "com/example/operatory/operatory/fhir/SearchValue$Alternative", name := "value", desc := "()Ljava/util/Optional;" } : Jvm.MethodName) prog_5_method_16_code (1 : Nat) (Option.some (Jvm.ClassFile.FieldType.object "java/util/Optional")), Jvm.Cond.code ({ cls := "com/example/operatory/operatory/fhir/SearchValue$Alternative", name := "missing", desc := "()Ljava/util/Optional;" } : Jvm.MethodName) prog_5_method_20_code (1 : Nat) (Option.some (Jvm.ClassFile.FieldType.object "java/util/Optional")), Jvm.Cond.code ({ cls := "com/example/operatory/operatory/fhir/SearchValue$Alternative", name := "noSystem", desc := "()Z" } : Jvm.MethodName) prog_5_method_14_code (1 : Nat) (Option.some Jvm.ClassFile.FieldType.boolean), Jvm.Cond.code ({ cls := "java/lang/String", name := "valueOf", desc := "(C)Ljava/lang/String;" } : Jvm.MethodName) jdk_42_method_139_code (1 : Nat) (Option.some (Jvm.ClassFile.FieldType.object "java/lang/String")), Jvm.Cond.code ({ cls := "java/lang/StringLatin1", name := "canEncode", desc := "(C)Z" } : Jvm.MethodName) jdk_43_method_3_code (1 : Nat) (Option.some Jvm.ClassFile.FieldType.boolean), Jvm.Cond.code ({ cls := "java/lang/StringLatin1", name := "toBytes", desc := "(C)[B" } : Jvm.MethodName) jdk_43_method_46_code (1 : Nat) (Option.some (Jvm.ClassFile.FieldType.array Jvm.ClassFile.FieldType.byte)), Jvm.Cond.code ({ cls := "java/lang/String", name := "<init>", desc := "([BB)V" } : Jvm.MethodName) jdk_42_method_151_code (3 : Nat) (Option.none : Option Jvm.ClassFile.FieldType)]
set_option maxRecDepth 65536 in
theorem codes_eq : words1.filter isCode = codes1 := rfl
theorem w_codes : ∀ c ∈ words1.filter isCode, c.before args0 about1 = true := by
  rw [codes_eq]
  intro c hc
  simp only [codes1, List.mem_cons, List.not_mem_nil, or_false] at hc
  rcases hc with rfl | rfl | rfl | rfl | rfl | rfl | rfl | rfl | rfl | rfl | rfl | rfl | rfl | rfl | rfl | rfl | rfl | rfl | rfl | rfl | rfl | rfl | rfl | rfl | rfl | rfl | rfl | rfl | rfl | rfl | rfl | rfl | rfl
  · exact w_c0
  · exact w_c1
  · exact w_c2
  · exact w_c3
  · exact w_c4
  · exact w_c5
  · exact w_c6
  · exact w_c7
  · exact w_c8
  · exact w_c9
  · exact w_c10
  · exact w_c11
  · exact w_c12
  · exact w_c13
  · exact w_c14
  · exact w_c15
  · exact w_c16
  · exact w_c17
  · exact w_c18
  · exact w_c19
  · exact w_c20
  · exact w_c21
  · exact w_c22
  · exact w_c23
  · exact w_c24
  · exact w_c25
  · exact w_c26
  · exact w_c27
  · exact w_c28
  · exact w_c29
  · exact w_c30
  · exact w_c31
  · exact w_c32
set_option maxRecDepth 65536 in
theorem w_t1 : (words1.take 24).all (fun c => isCode c || c.before args0 about1) = true := by decide +kernel
set_option maxRecDepth 65536 in
theorem w_t2 : ((words1.drop 24).take 24).all (fun c => isCode c || c.before args0 about1) = true := by decide +kernel
set_option maxRecDepth 65536 in
theorem w_t3 : (((words1.drop 24).drop 24).take 24).all (fun c => isCode c || c.before args0 about1) = true := by decide +kernel
set_option maxRecDepth 65536 in
theorem w_t4 : ((((words1.drop 24).drop 24).drop 24).take 24).all (fun c => isCode c || c.before args0 about1) = true := by decide +kernel
set_option maxRecDepth 65536 in
theorem w_t5 : (((((words1.drop 24).drop 24).drop 24).drop 24).take 24).all (fun c => isCode c || c.before args0 about1) = true := by decide +kernel
set_option maxRecDepth 65536 in
theorem w_t6 : ((((((words1.drop 24).drop 24).drop 24).drop 24).drop 24).take 24).all (fun c => isCode c || c.before args0 about1) = true := by decide +kernel
set_option maxRecDepth 65536 in
theorem w_t7 : (((((((words1.drop 24).drop 24).drop 24).drop 24).drop 24).drop 24).take 24).all (fun c => isCode c || c.before args0 about1) = true := by decide +kernel
set_option maxRecDepth 65536 in
theorem w_t8 : (((((((words1.drop 24).drop 24).drop 24).drop 24).drop 24).drop 24).drop 24).all (fun c => isCode c || c.before args0 about1) = true := by decide +kernel
theorem w_tables : (allAtoms (Jvm.Cond.code x code maxLocals ret :: tables_1)).before args0 about1 = true := by
  rw [allAtoms_all]
  show words1.all (fun c => c.before args0 about1) = true
  refine all_split ?_ w_codes
  rw [← List.take_append_drop 24 words1, List.all_append, w_t1, ← List.take_append_drop 24 (words1.drop 24), List.all_append, w_t2, ← List.take_append_drop 24 ((words1.drop 24).drop 24), List.all_append, w_t3, ← List.take_append_drop 24 (((words1.drop 24).drop 24).drop 24), List.all_append, w_t4, ← List.take_append_drop 24 ((((words1.drop 24).drop 24).drop 24).drop 24), List.all_append, w_t5, ← List.take_append_drop 24 (((((words1.drop 24).drop 24).drop 24).drop 24).drop 24), List.all_append, w_t6, ← List.take_append_drop 24 ((((((words1.drop 24).drop 24).drop 24).drop 24).drop 24).drop 24), List.all_append, w_t7, w_t8]
  rfl
set_option maxRecDepth 65536 in
theorem w_rest : rest_1_c.before args0 about1 = true := by decide +kernel
set_option maxRecDepth 65536 in
theorem w_case : (Jvm.Cond.and given_1 narrow_1).before args0 about1 = true := by decide +kernel
theorem w_applies : (headSpec (Jvm.Cond.code x code maxLocals ret :: tables_1) room_1).applies x e0.platform about1 = true :=
  (Spec.applies_iff w_frames).mpr ⟨w_running, w_runnable, w_alone, w_named, w_hears, w_ripe, w_room, w_tables⟩
theorem atStart : AtStart classFile x code maxLocals ret World_1 tables_1 room_1 Calls_1 rest_1 Pre_1 launch0 p0 e0 about1 theMethod args0 below0 :=
  ⟨lists_1, trivial, launch0.admits_env _ _ _, launch0.least_env, fairChoices_fair.cas, fairChoices_fair.clock, w_frames, w_args, w_heap, w_applies, trivial, w_rest, w_case⟩
end start1
theorem witness_1 : WitnessClaimed_1 := ⟨start1.p0, start1.e0, start1.about1, start1.theMethod, start1.args0, start1.below0, start1.atStart⟩
end Jvm.Pilot.@@N@@
