import JvmDerived
import JvmDerived.Pilot.@@N@@Statement
import JvmDerived.Pilot.@@N@@Code
set_option linter.unusedVariables false
set_option linter.unusedSimpArgs false
set_option maxRecDepth 65536
set_option maxHeartbeats 40000000
namespace Jvm.Pilot.@@N@@
open Jvm Jvm.ClassFile Sem Op Lib Jvm.Free Jvm.Stand Jvm.LawKit Jvm.RoadKit Bundle Jvm.Pilot.@@N@@.Jvm.D
section Own
variable {p : Program} {l : Launch} {e : Env} {R : Room} {s : State} {m : MethodId} {args : Array Value} {below : List Frame} {meth : Method} {c : Code} {T : State} {locs : List Loc} {cells slots : Nat} {Z : State} {h h' h2 : Heap}
/-- from U the walk comes to its end, where P holds -/
def Ends (tb : Tables) (e : Env) (below : List Frame) (P : Outcome → State → Prop) (U : State) : Prop := ∃ s₂ o, Steps tb e below U s₂ ∧ s₂.status = .running ∧ Ended s₂ below o ∧ P o s₂
theorem Ends.step {tb : Tables} {P : Outcome → State → Prop} {U U' : State} (k : ∀ t, Steps tb e below U' t → Steps tb e below U t) (h : Ends tb e below P U') : Ends tb e below P U := by
  obtain ⟨t, o, a, r⟩ := h; exact ⟨t, o, k t a, r⟩
theorem Ends.go {tb : Tables} {P : Outcome → State → Prop} {U U' : State} (k : Steps tb e below U U') (h : Ends tb e below P U') : Ends tb e below P U := Ends.step (fun _ q => k.trans q) h
theorem own_mono (X : Stand p l e R s m args below meth c T locs cells slots) {cells' slots' : Nat} (h1 : cells ≤ cells') (h2 : slots ≤ slots') : Stand p l e R s m args below meth c T locs cells' slots' := { X with same := X.same.mono h1 h2 }
theorem own_reX (X : Stand p l e R s m args below meth c T locs cells slots) {cells' slots' : Nat} (h1 : cells = cells') (h2 : slots = slots') : Stand p l e R s m args below meth c T locs cells' slots' := h1 ▸ h2 ▸ X
theorem own_frApp {n0 : Nat} {L L1 L2 : List Loc} (N : Fr n0 L1) (N' : Fr n0 L2) (e : L = L1 ++ L2) : Fr n0 L := e ▸ N.app N'
theorem own_at {a : Addr} {cl : Cell} (eT : T.heap = h) (H : h[a]? = some cl) : T.heap[a]? = some cl := by rw [eT]; exact H
theorem own_end {Q : Option Value → Heap → List Loc → Prop} {K N : Nat} {v : Option Value} {g : JFrame} (X : Stand p l e R s m args below meth c T locs cells slots) (hlk : meth.locks = false) (hv : meth.sig.returnType = none → v = none)
    (st : ∀ fs : List Frame, (∀ (f : JFrame) (acts : List Action), f.method = m → f.locked = none → f.entered = [] → (doReturn e (T.setTop f) acts v).1 = T.setFrames fs) → Steps p.tables e below (T.setTop g) (T.setFrames fs))
    (eT : T.heap = h) (hQ : Q v h locs) (hk : cells ≤ K) (hn : slots ≤ N) : Ends p.tables e below (fun o U => ∃ v L, o = .returned v ∧ Q v U.heap L ∧ FrameEnd s o U L K N) (T.setTop g) := by
  obtain ⟨fs, hr, hrun, hended, hW, hsame⟩ := X.leave (v := v) hv hlk
  refine ⟨_, _, st fs hr, hrun, hended, v, locs, rfl, ?_, ⟨_, rfl⟩, hW, hsame.mono hk hn⟩
  show Q v T.heap locs
  rw [eT]; exact hQ
theorem own_finV {Q : Option Value → Heap → List Loc → Prop} {K N : Nat} (X : Stand p l e R s m args below meth c T locs cells slots) (hx : p.tables.exec = Jvm.exec) (hlk : meth.locks = false) (hret : meth.sig.returnType = none) {pc : Nat} {Ls : Array Slot} (hd : decode c.code pc = .ok (.return_, 1)) (eT : T.heap = h) (hQ : Q none h locs) (hk : cells ≤ K) (hn : slots ≤ N) :
    Ends p.tables e below (fun o U => ∃ v L, o = .returned v ∧ Q v U.heap L ∧ FrameEnd s o U L K N) (T.setTop (mkF m pc Ls [])) := own_end X hlk (fun _ => rfl) (fun _ hr => X.returnOut hx hret hd hr) eT hQ hk hn
theorem own_finR {Q : Option Value → Heap → List Loc → Prop} {K N : Nat} (X : Stand p l e R s m args below meth c T locs cells slots) (hx : p.tables.exec = Jvm.exec) (hlk : meth.locks = false) {t : FieldType} (hret : meth.sig.returnType = some t) (ht : t.isReference = true) {w : Value} (hw : w.isRef = true) {pc : Nat} {Ls : Array Slot} {rest : List Value} (hd : decode c.code pc = .ok (.areturn, 1)) (eT : T.heap = h) (hQ : Q (some w) h locs) (hk : cells ≤ K) (hn : slots ≤ N) :
    Ends p.tables e below (fun o U => ∃ v L, o = .returned v ∧ Q v U.heap L ∧ FrameEnd s o U L K N) (T.setTop (mkF m pc Ls (w :: rest))) :=
  own_end X hlk (fun q => by rw [hret] at q; cases q) (fun _ hr => retOut X hx hret (by rcases ref_cases hw with rfl | ⟨a, rfl⟩ <;> cases t <;> first | rfl | (exact absurd ht (by decide))) (Or.inr (Or.inr (Or.inr (Or.inr ⟨rfl, ht, hw⟩)))) hd hr) eT hQ hk hn
theorem own_finI {Q : Option Value → Heap → List Loc → Prop} {K N : Nat} (X : Stand p l e R s m args below meth c T locs cells slots) (hx : p.tables.exec = Jvm.exec) (hlk : meth.locks = false) {t : FieldType} (hret : meth.sig.returnType = some t) (ht : t = .int ∨ t = .boolean ∨ t = .byte ∨ t = .char ∨ t = .short) {w : Int32} (hnr : narrow t (.int w) = .int w) {pc : Nat} {Ls : Array Slot} {rest : List Value} (hd : decode c.code pc = .ok (.ireturn, 1)) (eT : T.heap = h) (hQ : Q (some (.int w)) h locs) (hk : cells ≤ K) (hn : slots ≤ N) :
    Ends p.tables e below (fun o U => ∃ v L, o = .returned v ∧ Q v U.heap L ∧ FrameEnd s o U L K N) (T.setTop (mkF m pc Ls (.int w :: rest))) :=
  own_end X hlk (fun q => by rw [hret] at q; cases q) (fun _ hr => retOut X hx hret hnr (Or.inl ⟨rfl, ht, w, rfl⟩) hd hr) eT hQ hk hn
theorem own_alen (X : Stand p l e R s m args below meth c T locs cells slots) (hx : p.tables.exec = Jvm.exec) (hZ : Z.Warmed39 s.vm) (eT : T.heap = h) {a : Addr} {cl : Cell} {ty : FieldType} (A : Arr Z h a cl ty) {z : Int32} (hz : cl.slots.size.toInt32 = z) {g : JFrame} (hg : g.method = m) {rest : List Value} (hs : g.stack = .ref a :: rest) (hd : decode c.code g.pc = .ok (.arraylength, 1))
    {target : State} (k : Steps p.tables e below (T.setTop { g with pc := g.pc + 1, stack := .int z :: rest }) target) : Steps p.tables e below (T.setTop g) target := by
  subst hz
  exact X.arraylength hx (by rw [eT]; exact A.1) (State.isArrayOf_alike hZ.alike A.2.1) hg hs hd _ k
theorem own_narrow_ref {v : Value} {t : FieldType} (h : v.isRef = true) (ht : t.isReference = true) : narrow t v = v := by
  rcases ref_cases h with rfl | ⟨a, rfl⟩ <;> cases t <;> first | rfl | (exact absurd ht (by decide))
end Own
section OwnW
variable {p : Program} {l : Launch} {e : Env} {R : Room} {s : State} {m : MethodId} {args : Array Value} {below : List Frame} {meth : Method} {c : Code} {T : State} {locs : List Loc} {cells slots : Nat} {Z : State} {h h0 h1 h2 : Heap} {EL : List (String × Nat)} {vm vm0 vm1 : Vm} {a0 : Array Value}
theorem own_chrE (R : CHr Z EL vm h vm1 h1) (E : Ext h1 h2) : CHr Z EL vm h vm1 h2 := R.trans (CHr.ext E R.1)
theorem own_chrK (R : CHr Z EL vm h vm1 h1) (K : Keep h1 h2 []) : CHr Z EL vm h vm1 h2 := R.trans (CHr.keep K sf0 R.1)
theorem own_chrS {ws : List Addr} (R : CHr Z EL vm h vm1 h1) (K : Keep h1 h2 ws) (hs : ∀ x ∈ ws, Safe Z EL vm1 h1 x) : CHr Z EL vm h vm1 h2 := R.trans (CHr.keep K hs R.1)
theorem own_chrW {a : Addr} {sl : Nat} {v : Value} (R : CHr Z EL vm h vm1 h1) (W : Wr h1 h2 a sl v) (S : Safe Z EL vm1 h1 a) : CHr Z EL vm h vm1 h2 := R.trans (CHr.wr W S R.1)
/-- a String that is still being made is no literal's -/
theorem own_safeBlank {x : Addr} (hal : Z.vm.Alike vm) (E : Exa Z h x "java/lang/String") (F : Fld Z h x "java/lang/String" "value" "[B" .null) : Safe Z EL vm h x := fun B => by
  obtain ⟨cell, k, e1, e2, e3, -, -⟩ := E
  obtain ⟨cell', cf, k', i, f, f1, f2, -, -, -, -, f7⟩ := F
  cases e1.symm.trans f1
  obtain ⟨p, -, u, a, -, q, -, F, rfl | rfl⟩ := B
  · cases (show h[q.sa]? = some q.sC from F.ha).symm.trans e1
    obtain ⟨cS, ⟨⟨-, -, -, ⟨cv, kv, iv, s4, -⟩, -, -, -, s8, -⟩, -, -⟩, -⟩ := F
    obtain ⟨kv', z4⟩ := ff_back (U := Wst Z vm h) hal s4
    cases f2.symm.trans z4
    rw [s8] at f7
    cases f7
  · cases (show h[q.sd]? = some q.SA from F.hd).symm.trans e1
    obtain ⟨cS, -, -, f, -⟩ := F
    have f' : vm.findClass "[B" = some q.SA.cls := f
    rw [hal.findClass] at f'
    obtain ⟨k1, q1, q2⟩ := Vm.findClass_spec f'
    obtain ⟨k2, q3, q4⟩ := Vm.findClass_spec e2
    cases q1.symm.trans q3
    exact absurd (q2.symm.trans q4) (by decide)
theorem own_endW {Q : Option Value → Heap → List Loc → Prop} {K N k0 : Nat} {v : Option Value} {g : JFrame} (X : Stand p l e R (s.setVm vm0) m args below meth c T locs cells slots) (hS : s.Since vm0 k0) (hlk : meth.locks = false) (hh : s.heap = h0) (hEL : EW Z a0 EL) (hk0 : k0 ≤ h.size) (CR : CHr Z EL s.vm h0 vm0 h) (hZ : Z.Warmed39 vm0) (hv : meth.sig.returnType = none → v = none)
    (st : ∀ fs : List Frame, (∀ (f : JFrame) (acts : List Action), f.method = m → f.locked = none → f.entered = [] → (doReturn e (T.setTop f) acts v).1 = T.setFrames fs) → Steps p.tables e below (T.setTop g) (T.setFrames fs))
    (eT : T.heap = h) (hQ : Q v h locs) (hk : cells ≤ K) (hn : slots ≤ N) : Ends p.tables e below (fun o U => ∃ v L, o = .returned v ∧ Q v U.heap L ∧ CHr Z EL s.vm s.heap U.vm U.heap ∧ ReturnedEndW s o U L K N) (T.setTop g) := by
  subst eT hh
  obtain ⟨fs, hr, hrun, hended, h1, h2, h3, h4⟩ := X.leaveW hS hk0 (v := v) hv hlk
  exact ⟨_, _, st fs hr, hrun, hended, v, locs, rfl, hQ, (show CHr Z EL s.vm s.heap T.vm T.heap from CR.trans (CHv.at X hZ hEL CR.1)), h1, h2, h3, h4.mono hk hn⟩
theorem own_finVW {Q : Option Value → Heap → List Loc → Prop} {K N k0 : Nat} (X : Stand p l e R (s.setVm vm0) m args below meth c T locs cells slots) (hS : s.Since vm0 k0) (hx : p.tables.exec = Jvm.exec) (hlk : meth.locks = false) (hh : s.heap = h0) (hEL : EW Z a0 EL) (hk0 : k0 ≤ h.size) (CR : CHr Z EL s.vm h0 vm0 h) (hZ : Z.Warmed39 vm0) (hret : meth.sig.returnType = none) {pc : Nat} {Ls : Array Slot} (hd : decode c.code pc = .ok (.return_, 1)) (eT : T.heap = h) (hQ : Q none h locs) (hk : cells ≤ K) (hn : slots ≤ N) :
    Ends p.tables e below (fun o U => ∃ v L, o = .returned v ∧ Q v U.heap L ∧ CHr Z EL s.vm s.heap U.vm U.heap ∧ ReturnedEndW s o U L K N) (T.setTop (mkF m pc Ls [])) := own_endW X hS hlk hh hEL hk0 CR hZ (fun _ => rfl) (fun _ hr => X.returnOut hx hret hd hr) eT hQ hk hn
theorem own_finRW {Q : Option Value → Heap → List Loc → Prop} {K N k0 : Nat} (X : Stand p l e R (s.setVm vm0) m args below meth c T locs cells slots) (hS : s.Since vm0 k0) (hx : p.tables.exec = Jvm.exec) (hlk : meth.locks = false) (hh : s.heap = h0) (hEL : EW Z a0 EL) (hk0 : k0 ≤ h.size) (CR : CHr Z EL s.vm h0 vm0 h) (hZ : Z.Warmed39 vm0) {t : FieldType} (hret : meth.sig.returnType = some t) (ht : t.isReference = true) {w : Value} (hw : w.isRef = true) {pc : Nat} {Ls : Array Slot} {rest : List Value} (hd : decode c.code pc = .ok (.areturn, 1)) (eT : T.heap = h) (hQ : Q (some w) h locs) (hk : cells ≤ K) (hn : slots ≤ N) :
    Ends p.tables e below (fun o U => ∃ v L, o = .returned v ∧ Q v U.heap L ∧ CHr Z EL s.vm s.heap U.vm U.heap ∧ ReturnedEndW s o U L K N) (T.setTop (mkF m pc Ls (w :: rest))) :=
  own_endW X hS hlk hh hEL hk0 CR hZ (fun q => by rw [hret] at q; cases q) (fun _ hr => retOut X hx hret (own_narrow_ref hw ht) (Or.inr (Or.inr (Or.inr (Or.inr ⟨rfl, ht, hw⟩)))) hd hr) eT hQ hk hn
theorem own_finIW {Q : Option Value → Heap → List Loc → Prop} {K N k0 : Nat} (X : Stand p l e R (s.setVm vm0) m args below meth c T locs cells slots) (hS : s.Since vm0 k0) (hx : p.tables.exec = Jvm.exec) (hlk : meth.locks = false) (hh : s.heap = h0) (hEL : EW Z a0 EL) (hk0 : k0 ≤ h.size) (CR : CHr Z EL s.vm h0 vm0 h) (hZ : Z.Warmed39 vm0) {t : FieldType} (hret : meth.sig.returnType = some t) (ht : t = .int ∨ t = .boolean ∨ t = .byte ∨ t = .char ∨ t = .short) {w : Int32} (hnr : narrow t (.int w) = .int w) {pc : Nat} {Ls : Array Slot} {rest : List Value} (hd : decode c.code pc = .ok (.ireturn, 1)) (eT : T.heap = h) (hQ : Q (some (.int w)) h locs) (hk : cells ≤ K) (hn : slots ≤ N) :
    Ends p.tables e below (fun o U => ∃ v L, o = .returned v ∧ Q v U.heap L ∧ CHr Z EL s.vm s.heap U.vm U.heap ∧ ReturnedEndW s o U L K N) (T.setTop (mkF m pc Ls (.int w :: rest))) :=
  own_endW X hS hlk hh hEL hk0 CR hZ (fun q => by rw [hret] at q; cases q) (fun _ hr => retOut X hx hret hnr (Or.inl ⟨rfl, ht, w, rfl⟩) hd hr) eT hQ hk hn
end OwnW
section OwnZ
variable {p : Program} {l : Launch} {e : Env} {R : Room} {s : State} {m : MethodId} {args : Array Value} {below : List Frame} {meth : Method} {c : Code} {T T' : State} {locs : List Loc} {cells slots : Nat} {Z : State} {h : Heap} {P : Outcome → State → Prop} {pc : Nat} {L : Array Slot} {S : List Value} {a0 : Array Value}
def Ds (c : Code) : List (Nat × Instr × Nat) → Prop
  | [] => True
  | (pc, i, n) :: r => decode c.code pc = .ok (i, n) ∧ Ds c r
def dsb (code : ByteArray) : List (Nat × Instr × Nat) → Bool
  | [] => true
  | (pc, i, n) :: r => decide (decode code pc = .ok (i, n)) && dsb code r
theorem Ds.of {code : ByteArray} (h : c.code = code) : ∀ l, dsb code l = true → Ds c l
  | [], _ => trivial
  | (pc, i, n) :: r, q => by
    have a := (Bool.and_eq_true _ _).mp q
    exact ⟨by rw [h]; exact of_decide_eq_true a.1, Ds.of h r a.2⟩
theorem tw {d : Jvm.Cond} (hw : ∀ d ∈ tables_1, d.before a0 Z = true) (i : Nat) (h : tables_1[i]? = some d) : d.before a0 Z = true := hw _ (List.mem_of_getElem? h)
theorem own_rY (X : Stand p l e R s m args below meth c T locs cells slots) {a b a' b' : Nat} (h1 : cells = a) (h2 : slots = b) (h3 : a = a') (h4 : b = b') : Stand p l e R s m args below meth c T locs a' b' := h3 ▸ h4 ▸ h1 ▸ h2 ▸ X
theorem zq (q : Nat) (S' : List Value) (k : ∀ t, Steps p.tables e below (T.setTop (mkF m q L S')) t → Steps p.tables e below (T.setTop (mkF m pc L S)) t) (h : Ends p.tables e below P (T.setTop (mkF m q L S'))) : Ends p.tables e below P (T.setTop (mkF m pc L S)) := Ends.step k h
theorem zl (q : Nat) (L' : Array Slot) (S' : List Value) (k : ∀ t, Steps p.tables e below (T.setTop (mkF m q L' S')) t → Steps p.tables e below (T.setTop (mkF m pc L S)) t) (h : Ends p.tables e below P (T.setTop (mkF m q L' S'))) : Ends p.tables e below P (T.setTop (mkF m pc L S)) := Ends.step k h
theorem zt (q : Nat) (S' : List Value) (k : ∀ t, Steps p.tables e below (T'.setTop (mkF m q L S')) t → Steps p.tables e below (T.setTop (mkF m pc L S)) t) (h : Ends p.tables e below P (T'.setTop (mkF m q L S'))) : Ends p.tables e below P (T.setTop (mkF m pc L S)) := Ends.step k h
theorem zg (q : Nat) (S' : List Value) (k : Steps p.tables e below (T.setTop (mkF m pc L S)) (T'.setTop (mkF m q L S'))) (h : Ends p.tables e below P (T'.setTop (mkF m q L S'))) : Ends p.tables e below P (T.setTop (mkF m pc L S)) := Ends.go k h
theorem zR (X : Stand p l e R s m args below meth c T locs cells slots) (hx : p.tables.exec = Jvm.exec) {k : Fin 4} {v : Value} (hd : decode c.code pc = .ok (.aload_n k, 1)) (hl : L[k.val]? = some (.val v)) (hv : v.isRef = true) (q : Nat) (hq : pc + 1 = q) (h : Ends p.tables e below P (T.setTop (mkF m q L (v :: S)))) : Ends p.tables e below P (T.setTop (mkF m pc L S)) := by subst hq; exact Ends.step (fun t k => XS.aloadN X.here hx rfl hd hl hv k) h
theorem zR2 (X : Stand p l e R s m args below meth c T locs cells slots) (hx : p.tables.exec = Jvm.exec) {k : Nat} {v : Value} (hd : decode c.code pc = .ok (.aload k, 2)) (hl : L[k]? = some (.val v)) (hv : v.isRef = true) (q : Nat) (hq : pc + 2 = q) (h : Ends p.tables e below P (T.setTop (mkF m q L (v :: S)))) : Ends p.tables e below P (T.setTop (mkF m pc L S)) := by subst hq; exact Ends.step (fun t k => XS.aload X.here hx rfl hd hl hv k) h
theorem zI (X : Stand p l e R s m args below meth c T locs cells slots) (hx : p.tables.exec = Jvm.exec) {k : Fin 4} {v : Int32} (hd : decode c.code pc = .ok (.iload_n k, 1)) (hl : L[k.val]? = some (.val (.int v))) (q : Nat) (hq : pc + 1 = q) (h : Ends p.tables e below P (T.setTop (mkF m q L (.int v :: S)))) : Ends p.tables e below P (T.setTop (mkF m pc L S)) := by subst hq; exact Ends.step (fun t k => XS.iloadN X.here hx rfl hd hl k) h
theorem zI2 (X : Stand p l e R s m args below meth c T locs cells slots) (hx : p.tables.exec = Jvm.exec) {k : Nat} {v : Int32} (hd : decode c.code pc = .ok (.iload k, 2)) (hl : L[k]? = some (.val (.int v))) (q : Nat) (hq : pc + 2 = q) (h : Ends p.tables e below P (T.setTop (mkF m q L (.int v :: S)))) : Ends p.tables e below P (T.setTop (mkF m pc L S)) := by subst hq; exact Ends.step (fun t k => XS.iload X.here hx rfl hd hl k) h
theorem zJ (X : Stand p l e R s m args below meth c T locs cells slots) (hx : p.tables.exec = Jvm.exec) {k : Fin 4} {v : Int64} (hd : decode c.code pc = .ok (.lload_n k, 1)) (hl : L[k.val]? = some (.val (.long v))) (q : Nat) (hq : pc + 1 = q) (h : Ends p.tables e below P (T.setTop (mkF m q L (.long v :: S)))) : Ends p.tables e below P (T.setTop (mkF m pc L S)) := by subst hq; exact Ends.step (fun t k => XS.lloadN X.here hx rfl hd hl k) h
theorem zJ2 (X : Stand p l e R s m args below meth c T locs cells slots) (hx : p.tables.exec = Jvm.exec) {k : Nat} {v : Int64} (hd : decode c.code pc = .ok (.lload k, 2)) (hl : L[k]? = some (.val (.long v))) (q : Nat) (hq : pc + 2 = q) (h : Ends p.tables e below P (T.setTop (mkF m q L (.long v :: S)))) : Ends p.tables e below P (T.setTop (mkF m pc L S)) := by subst hq; exact Ends.step (fun t k => XS.lload X.here hx rfl hd hl k) h
theorem zK (X : Stand p l e R s m args below meth c T locs cells slots) (hx : p.tables.exec = Jvm.exec) {i : Int} (hd : decode c.code pc = .ok (.iconst i, 1)) (x : Int32) (hi : Int32.ofInt i = x) (q : Nat) (hq : pc + 1 = q) (h : Ends p.tables e below P (T.setTop (mkF m q L (.int x :: S)))) : Ends p.tables e below P (T.setTop (mkF m pc L S)) := by subst hq hi; exact Ends.step (fun t k => XS.iconst X.here hx rfl hd k) h
theorem zY (X : Stand p l e R s m args below meth c T locs cells slots) (hx : p.tables.exec = Jvm.exec) {cd : ClassFile.Cond} {x : Int32} {o : Int} (hd : decode c.code pc = .ok (.ifCond cd o, 3)) (hc : ifCond.holds cd x = true) (q : Nat) (ho : 0 ≤ (pc : Int) + o ∧ ((pc : Int) + o).toNat = q) (h : Ends p.tables e below P (T.setTop (mkF m q L S))) : Ends p.tables e below P (T.setTop (mkF m pc L (.int x :: S))) := Ends.step (fun t k => XS.ifYes X.here hx rfl rfl hd rfl hc ho.1 ho.2 k) h
theorem zN (X : Stand p l e R s m args below meth c T locs cells slots) (hx : p.tables.exec = Jvm.exec) {cd : ClassFile.Cond} {x : Int32} {o : Int} (hd : decode c.code pc = .ok (.ifCond cd o, 3)) (hc : ifCond.holds cd x = false) (q : Nat) (hq : pc + 3 = q) (h : Ends p.tables e below P (T.setTop (mkF m q L S))) : Ends p.tables e below P (T.setTop (mkF m pc L (.int x :: S))) := by subst hq; exact Ends.step (fun t k => XS.ifNo X.here hx rfl hd rfl hc k) h
theorem zCY (X : Stand p l e R s m args below meth c T locs cells slots) (hx : p.tables.exec = Jvm.exec) {cd : ClassFile.Cond} {x y : Int32} {o : Int} (hd : decode c.code pc = .ok (.if_icmp cd o, 3)) (hc : if_icmp.holds cd x y = true) (q : Nat) (ho : 0 ≤ (pc : Int) + o ∧ ((pc : Int) + o).toNat = q) (h : Ends p.tables e below P (T.setTop (mkF m q L S))) : Ends p.tables e below P (T.setTop (mkF m pc L (.int y :: .int x :: S))) := Ends.step (fun t k => XS.icmpYes X.here hx rfl rfl hd rfl hc ho.1 ho.2 k) h
theorem zCN (X : Stand p l e R s m args below meth c T locs cells slots) (hx : p.tables.exec = Jvm.exec) {cd : ClassFile.Cond} {x y : Int32} {o : Int} (hd : decode c.code pc = .ok (.if_icmp cd o, 3)) (hc : if_icmp.holds cd x y = false) (q : Nat) (hq : pc + 3 = q) (h : Ends p.tables e below P (T.setTop (mkF m q L S))) : Ends p.tables e below P (T.setTop (mkF m pc L (.int y :: .int x :: S))) := by subst hq; exact Ends.step (fun t k => XS.icmpNo X.here hx rfl hd rfl hc k) h
theorem zG (X : Stand p l e R s m args below meth c T locs cells slots) (hx : p.tables.exec = Jvm.exec) {o : Int} (hd : decode c.code pc = .ok (.goto o, 3)) (q : Nat) (ho : 0 ≤ (pc : Int) + o ∧ ((pc : Int) + o).toNat = q) (h : Ends p.tables e below P (T.setTop (mkF m q L S))) : Ends p.tables e below P (T.setTop (mkF m pc L S)) := Ends.step (fun t k => XS.goto X.here hx rfl rfl hd ho.1 ho.2 k) h
theorem zD (X : Stand p l e R s m args below meth c T locs cells slots) (hx : p.tables.exec = Jvm.exec) {x : Value} (hd : decode c.code pc = .ok (.dup, 1)) (hc : x.category = 1) (q : Nat) (hq : pc + 1 = q) (h : Ends p.tables e below P (T.setTop (mkF m q L (x :: x :: S)))) : Ends p.tables e below P (T.setTop (mkF m pc L (x :: S))) := by subst hq; exact Ends.step (fun t k => XS.dup X.here hx rfl hd rfl hc k) h
theorem zF (X : Stand p l e R s m args below meth c T locs cells slots) (hx : p.tables.exec = Jvm.exec) (hZ : Z.Warmed39 s.vm) {own R0 O n d host : String} {index : Nat} (hown : s.vm.findClass own = some m.cls) (w : (Jvm.Cond.fieldLink own index R0 n d).before a0 Z = true ∨ (Jvm.Cond.fieldLinkNest own index R0 n d host).before a0 Z = true) (via : Via Z R0 O n d) (eT : T.heap = h) {a : Addr} {v : Value} (F : Fld Z h a O n d v) (hd : decode c.code pc = .ok (.getfield index, 3)) (q : Nat) (hq : pc + 3 = q)
    (k : ∀ T', Stand p l e R s m args below meth c T' locs cells slots → T'.heap = h → Ends p.tables e below P (T'.setTop (mkF m q L (v :: S)))) : Ends p.tables e below P (T.setTop (mkF m pc L (.ref a :: S))) := by
  subst hq
  obtain ⟨T', X', e', st⟩ := getF X hx hZ hown w via eT F (g := mkF m pc L (.ref a :: S)) rfl rfl hd
  exact Ends.step st (k T' X' e')
theorem zP (X : Stand p l e R s m args below meth c T locs cells slots) (hx : p.tables.exec = Jvm.exec) (hZ : Z.Warmed39 s.vm) {own R0 n d : String} {index : Nat} (hown : s.vm.findClass own = some m.cls) (w : (Jvm.Cond.fieldLink own index R0 n d).before a0 Z = true) (eT : T.heap = h) {a : Addr} {v : Value} (F : Fld Z h a R0 n d v) (hd : decode c.code pc = .ok (.getfield index, 3)) (q : Nat) (hq : pc + 3 = q)
    (k : ∀ T', Stand p l e R s m args below meth c T' locs cells slots → T'.heap = h → Ends p.tables e below P (T'.setTop (mkF m q L (v :: S)))) : Ends p.tables e below P (T.setTop (mkF m pc L (.ref a :: S))) := zF (host := "") X hx hZ hown (Or.inl w) Via.refl eT F hd q hq k
theorem zLn (X : Stand p l e R s m args below meth c T locs cells slots) (hx : p.tables.exec = Jvm.exec) (hZ : Z.Warmed39 s.vm) (eT : T.heap = h) {a : Addr} {k : ClassId} {ty : FieldType} {z : Int32} {vs : List Value} {dv : Value} (A : Arv Z h a k ty z vs dv) (hd : decode c.code pc = .ok (.arraylength, 1)) (q : Nat) (hq : pc + 1 = q) (h : Ends p.tables e below P (T.setTop (mkF m q L (.int z :: S)))) : Ends p.tables e below P (T.setTop (mkF m pc L (.ref a :: S))) := by
  subst hq
  obtain ⟨cl, Ar, -, Sz, M, -, -⟩ := A
  have ln := len_of Sz M
  exact Ends.step (fun t k => own_alen X hx hZ eT Ar ln (g := mkF m pc L (.ref a :: S)) rfl rfl hd k) h
theorem zIa (X : Stand p l e R s m args below meth c T locs cells slots) (hx : p.tables.exec = Jvm.exec) (hZ : Z.Warmed39 s.vm) (eT : T.heap = h) {a : Addr} {k : ClassId} {z j x : Int32} {vs : List Value} {dv : Value} (A : Arv Z h a k .int z vs dv) (hj : ¬ j < 0 ∧ j < z) (hv : vs.getD j.toNatClampNeg dv = .int x) (hd : decode c.code pc = .ok (.iaload, 1)) (q : Nat) (hq : pc + 1 = q) (h : Ends p.tables e below P (T.setTop (mkF m q L (.int x :: S)))) : Ends p.tables e below P (T.setTop (mkF m pc L (.int j :: .ref a :: S))) := by
  subst hq
  obtain ⟨cl, Ar, -, Sz, M, H, -⟩ := A
  have hin := inb_of Sz hj
  exact Ends.step (fun t k => X.iaload hx (own_at eT Ar.1) (State.isArrayOf_alike (State.Warmed39.alike hZ) Ar.2.1) Ar.2.2 hin (Has.at H hin hv) (g := mkF m pc L (.int j :: .ref a :: S)) rfl rfl hd _ k) h
def Mf (l : Launch) (Z : State) (y : MethodName) (bytes : ByteArray) (maxL : Nat) (ret : Option FieldType) (ws : List Jvm.Cond) (rm : Room) (as' : Array Value) (h : Heap) (Q : Option Value → Heap → List Loc → Prop) : Prop :=
  MetFree l y (head1 (Jvm.Cond.code y bytes maxL ret :: ws) rm) (fun a U => a = as' ∧ Z.Warmed39 U.vm ∧ U.heap = h) (fun _ _ _ _ _ => True) (fun _ U o U' => ∃ v L, o = .returned v ∧ Q v U'.heap L ∧ FrameEnd U o U' L rm.cells rm.slots)
theorem own_entry {y : MethodName} {bytes : ByteArray} {maxL : Nat} {ret : Option FieldType} {ws : List Jvm.Cond} {rm : Room} {as' : Array Value} {Q : Option Value → Heap → List Loc → Prop} (pf : plainFor y = true) (L0 : Array Slot) (hL : ∀ m, entryFrame m as' maxL = mkF m 0 L0 [])
    (k : ∀ (p : Program) (e : Env) (s : State) (m : MethodId) (below : List Frame) (meth : Method) (c : Code) (s₁ : State), p.tables.exec = Jvm.exec → c.code = bytes → c.maxLocals = maxL → s.vm.findClass y.cls = some m.cls → meth.name = y.name → meth.locks = false → meth.sig.returnType = ret → Z.Warmed39 s.vm → Stand p l e rm s m as' below meth c s₁ [] 0 0 → s₁.heap = h →
      Ends p.tables e below (fun o U' => ∃ v L, o = .returned v ∧ Q v U'.heap L ∧ FrameEnd s o U' L rm.cells rm.slots) (s₁.setTop (mkF m 0 L0 []))) : Mf l Z y bytes maxL ret ws rm as' h Q := by
  refine MetFree.of_bodySF pf hisR ?_
  intro p e s m args below meth c s₁ Bd hml0 hP hK
  obtain ⟨rfl, hZ, hh⟩ := hP
  have q := k p e s m below meth c s₁ Bd.exec Bd.bytes hml0 (findClass_of_methodNamed Bd.named) (name_of_methodNamed Bd.named Bd.method).1 (BodyLoose.notSynchronized Bd) Bd.returns hZ (Stand.of_body Bd) (by rw [← hh, Bd.state]; rfl)
  rw [← hL m] at q
  exact q
theorem zx (S' : List Value) (hS : S = S') (h : Ends p.tables e below P (T.setTop (mkF m pc L S'))) : Ends p.tables e below P (T.setTop (mkF m pc L S)) := by subst hS; exact h
theorem zCS (X : Stand p l e R s m args below meth c T locs cells slots) (hx : p.tables.exec = Jvm.exec) (hZ : Z.Warmed39 s.vm) {ml : Nat} (hml : c.maxLocals = ml) {own : String} {index : Nat} {y : MethodName} {bytes : ByteArray} {maxL : Nat} {ret : Option FieldType} (hown : s.vm.findClass own = some m.cls) (w1 : (Jvm.Cond.methodLink own index y).before a0 Z = true) (w2 : (Jvm.Cond.static y).before a0 Z = true) (w3 : (Jvm.Cond.initialized y.cls).before a0 Z = true) (w4 : (Jvm.Cond.code y bytes maxL ret).before a0 Z = true)
    {rm : Room} {as' : Array Value} {Q : Option Value → Heap → List Loc → Prop} (hM : Mf l Z y bytes maxL ret [] rm as' h Q) (W : Nat) (hb : (y.cls ≠ "java/lang/invoke/MethodHandle" ∧ y.cls ≠ "java/lang/invoke/VarHandle") ∧ rm.frames + 1 ≤ R.frames ∧ W + (maxL + 11) + rm.locals ≤ R.locals ∧ cells + rm.cells ≤ R.cells ∧ slots + rm.slots ≤ R.slots) (rest : List Value) (hL : L.size = ml) (hlen : ∀ sig, parseMethodDescriptor y.desc = some sig → as'.toList.length = sig.parameters.length) (hS : S = as'.toList.reverse ++ rest) (hW : 2 * 0 + (rest.map fun v => v.category).sum ≤ W) (eT : T.heap = h) (hd : decode c.code pc = .ok (.invokestatic index, 3)) (q : Nat) (hq : pc + 3 = q)
    (k : ∀ (T' : State) (L' : List Loc) (v : Option Value), Stand p l e R s m args below meth c T' L' (cells + rm.cells) (slots + rm.slots) → (∃ Lc, Q v T'.heap Lc ∧ L' = locs ++ Lc) → Ends p.tables e below P (T'.setTop (mkF m q L (v.toList ++ rest)))) : Ends p.tables e below P (T.setTop (mkF m pc L S)) := by
  subst hq
  obtain ⟨v, _, ⟨T', L', _, _⟩, -, X', ⟨Lc, hQ, e1, e2, e3⟩, st⟩ := Jvm.LawKit.callS X hx hown (mvT hZ w1) (mvT hZ w2) (mvT hZ w3) (mvT hZ w4) hb.1 (backOf (W := W) hM hZ w4 w3 hb.2.1 hb.2.2.1) (g := mkF m pc L S) rfl (hL.trans hml.symm) (argsL := as'.toList) (rest := rest) hlen hS hW hd (fun _ _ => ⟨Array.toArray_toList, eT, hb.2.2.2.1, hb.2.2.2.2⟩)
  dsimp only [Pt.U, Pt.locs, Pt.cells, Pt.slots] at X' e1 e2 e3 st hQ
  subst e2 e3
  exact Ends.step st (k T' L' v X' ⟨Lc, hQ, e1⟩)
theorem zCI (X : Stand p l e R s m args below meth c T locs cells slots) (hx : p.tables.exec = Jvm.exec) (hZ : Z.Warmed39 s.vm) {ml : Nat} (hml : c.maxLocals = ml) {own : String} {index : Nat} {y : MethodName} {bytes : ByteArray} {maxL : Nat} {ret : Option FieldType} (hr : ret = none) (hi : y.name = "<init>") (hown : s.vm.findClass own = some m.cls) (w1 : (Jvm.Cond.methodLink own index y).before a0 Z = true) (w2 : (Jvm.Cond.instanceMethod y).before a0 Z = true) (w3 : (Jvm.Cond.initialized y.cls).before a0 Z = true) (w4 : (Jvm.Cond.code y bytes maxL ret).before a0 Z = true)
    {rm : Room} {as' : Array Value} {Q : Option Value → Heap → List Loc → Prop} (hM : Mf l Z y bytes maxL ret [] rm as' h Q) (W : Nat) (hb : (y.cls ≠ "java/lang/invoke/MethodHandle" ∧ y.cls ≠ "java/lang/invoke/VarHandle") ∧ rm.frames + 1 ≤ R.frames ∧ W + (maxL + 11) + rm.locals ≤ R.locals ∧ cells + rm.cells ≤ R.cells ∧ slots + rm.slots ≤ R.slots) (a : Addr) (rest : List Value) (hL : L.size = ml) {argsL : List Value} (ha : (.ref a :: argsL).toArray = as') (hlen : ∀ sig, parseMethodDescriptor y.desc = some sig → argsL.length = sig.parameters.length) (hS : S = argsL.reverse ++ .ref a :: rest) (hW : 2 * 0 + (rest.map fun v => v.category).sum ≤ W) (eT : T.heap = h) (hd : decode c.code pc = .ok (.invokespecial index, 3)) (q : Nat) (hq : pc + 3 = q)
    (k : ∀ (T' : State) (L' : List Loc) (v : Option Value), Stand p l e R s m args below meth c T' L' (cells + rm.cells) (slots + rm.slots) → (∃ Lc, Q v T'.heap Lc ∧ L' = locs ++ Lc) → Ends p.tables e below P (T'.setTop (mkF m q L (v.toList ++ rest)))) : Ends p.tables e below P (T.setTop (mkF m pc L S)) := by
  subst hq hr
  obtain ⟨v, _, ⟨T', L', _, _⟩, -, X', ⟨Lc, hQ, e1, e2, e3⟩, st⟩ := X.specialBack hx hi hown (mvT hZ w1) (mvT hZ w2) (mvT hZ w4) hb.1 (backOf (W := W) hM hZ w4 w3 hb.2.1 hb.2.2.1) (g := mkF m pc L S) rfl (hL.trans hml.symm) (Steps.refl _) (a := a) (argsL := argsL) (rest := rest) hlen hS hW hd (fun _ _ => ⟨ha, eT, hb.2.2.2.1, hb.2.2.2.2⟩)
  dsimp only [Pt.U, Pt.locs, Pt.cells, Pt.slots] at X' e1 e2 e3 st hQ
  subst e2 e3
  exact Ends.go st (k T' L' v X' ⟨Lc, hQ, e1⟩)
theorem zCV (X : Stand p l e R s m args below meth c T locs cells slots) (hx : p.tables.exec = Jvm.exec) (hZ : Z.Warmed39 s.vm) {ml : Nat} (hml : c.maxLocals = ml) {own C : String} {index : Nat} {y : MethodName} {bytes : ByteArray} {maxL : Nat} {ret : Option FieldType} (hown : s.vm.findClass own = some m.cls) (w1 : (Jvm.Cond.methodLink own index y).before a0 Z = true) (w2 : (Jvm.Cond.declares y).before a0 Z = true) (w3 : (Jvm.Cond.initialized y.cls).before a0 Z = true) (w4 : (Jvm.Cond.code y bytes maxL ret).before a0 Z = true) (w5 : (Jvm.Cond.selects C y y).before a0 Z = true) (w6 : (Jvm.Cond.instanceMethod y).before a0 Z = true)
    {rm : Room} {as' : Array Value} {Q : Option Value → Heap → List Loc → Prop} (hM : Mf l Z y bytes maxL ret [] rm as' h Q) (W : Nat) (hb : (y.cls ≠ "java/lang/invoke/MethodHandle" ∧ y.cls ≠ "java/lang/invoke/VarHandle") ∧ rm.frames + 1 ≤ R.frames ∧ W + (maxL + 11) + rm.locals ≤ R.locals ∧ cells + rm.cells ≤ R.cells ∧ slots + rm.slots ≤ R.slots) (a : Addr) (rest : List Value) (hL : L.size = ml) {argsL : List Value} (ha : (.ref a :: argsL).toArray = as') (hlen : ∀ sig, parseMethodDescriptor y.desc = some sig → argsL.length = sig.parameters.length) (hS : S = argsL.reverse ++ .ref a :: rest) (hW : 2 * 0 + (rest.map fun v => v.category).sum ≤ W) (eT : T.heap = h) (E : Exa Z h a C) (hd : decode c.code pc = .ok (.invokevirtual index, 3)) (q : Nat) (hq : pc + 3 = q)
    (k : ∀ (T' : State) (L' : List Loc) (v : Option Value), Stand p l e R s m args below meth c T' L' (cells + rm.cells) (slots + rm.slots) → (∃ Lc, Q v T'.heap Lc ∧ L' = locs ++ Lc) → Ends p.tables e below P (T'.setTop (mkF m q L (v.toList ++ rest)))) : Ends p.tables e below P (T.setTop (mkF m pc L S)) := by
  subst hq
  obtain ⟨cq, kq, qa, qb, qc⟩ := isOf hZ eT E
  obtain ⟨v, _, ⟨T', L', _, _⟩, -, X', ⟨Lc, hQ, e1, e2, e3⟩, st⟩ := X.virtualBack hx (y := y) (z := y) hown (mvT hZ w1) (mvT hZ w2) (notFace_of_selects (args := #[]) (mvT hZ w5)) (mvT hZ w5) (mvT hZ w6) hb.1 (backOf (W := W) hM hZ w4 w3 hb.2.1 hb.2.2.1) qa qc (g := mkF m pc L S) rfl (hL.trans hml.symm) (Steps.refl _) (argsL := argsL) (rest := rest) hlen hS hW hd (fun _ _ => ⟨ha, eT, hb.2.2.2.1, hb.2.2.2.2⟩)
  dsimp only [Pt.U, Pt.locs, Pt.cells, Pt.slots] at X' e1 e2 e3 st hQ
  subst e2 e3
  exact Ends.go st (k T' L' v X' ⟨Lc, hQ, e1⟩)
theorem zCP (X : Stand p l e R s m args below meth c T locs cells slots) (hx : p.tables.exec = Jvm.exec) (hZ : Z.Warmed39 s.vm) {ml : Nat} (hml : c.maxLocals = ml) {own C : String} {index : Nat} {y : MethodName} {bytes : ByteArray} {maxL : Nat} {ret : Option FieldType} (hown : s.vm.findClass own = some m.cls) (w1 : (Jvm.Cond.methodLink own index y).before a0 Z = true) (w2 : (Jvm.Cond.privateMethod y).before a0 Z = true) (w3 : (Jvm.Cond.initialized y.cls).before a0 Z = true) (w4 : (Jvm.Cond.code y bytes maxL ret).before a0 Z = true) (w5 : (Jvm.Cond.selects y.cls y y).before a0 Z = true) (w6 : (Jvm.Cond.instanceMethod y).before a0 Z = true)
    {rm : Room} {as' : Array Value} {Q : Option Value → Heap → List Loc → Prop} (hM : Mf l Z y bytes maxL ret [] rm as' h Q) (W : Nat) (hb : (y.cls ≠ "java/lang/invoke/MethodHandle" ∧ y.cls ≠ "java/lang/invoke/VarHandle") ∧ rm.frames + 1 ≤ R.frames ∧ W + (maxL + 11) + rm.locals ≤ R.locals ∧ cells + rm.cells ≤ R.cells ∧ slots + rm.slots ≤ R.slots) (a : Addr) (rest : List Value) (hL : L.size = ml) {argsL : List Value} (ha : (.ref a :: argsL).toArray = as') (hlen : ∀ sig, parseMethodDescriptor y.desc = some sig → argsL.length = sig.parameters.length) (hS : S = argsL.reverse ++ .ref a :: rest) (hW : 2 * 0 + (rest.map fun v => v.category).sum ≤ W) (eT : T.heap = h) (E : Exa Z h a C) (hd : decode c.code pc = .ok (.invokevirtual index, 3)) (q : Nat) (hq : pc + 3 = q)
    (k : ∀ (T' : State) (L' : List Loc) (v : Option Value), Stand p l e R s m args below meth c T' L' (cells + rm.cells) (slots + rm.slots) → (∃ Lc, Q v T'.heap Lc ∧ L' = locs ++ Lc) → Ends p.tables e below P (T'.setTop (mkF m q L (v.toList ++ rest)))) : Ends p.tables e below P (T.setTop (mkF m pc L S)) := by
  subst hq
  obtain ⟨cq, qa, qb⟩ := E.cell
  obtain ⟨v, _, ⟨T', L', _, _⟩, -, X', ⟨Lc, hQ, e1, e2, e3⟩, st⟩ := X.privateBack hx (y := y) hown (mvT hZ w1) (mvT hZ w6) (mvT hZ w5) (Cond.privateMethod_at (mvP hZ w2 (args := #[]))) (mvT hZ w4) hb.1 (backOf (W := W) hM hZ w4 w3 hb.2.1 hb.2.2.1) (g := mkF m pc L S) rfl (hL.trans hml.symm) (Steps.refl _) (a := a) (own_at eT qa) qb (argsL := argsL) (rest := rest) hlen hS hW hd (fun _ _ => ⟨ha, eT, hb.2.2.2.1, hb.2.2.2.2⟩)
  dsimp only [Pt.U, Pt.locs, Pt.cells, Pt.slots] at X' e1 e2 e3 st hQ
  subst e2 e3
  exact Ends.go st (k T' L' v X' ⟨Lc, hQ, e1⟩)
end OwnZ
def UI (w : Int32) : Nat := w.toUInt32.toNat
theorem UI_lt (w : Int32) : UI w < 4294967296 := w.toUInt32.toNat_lt
theorem UI_bv (w : Int32) : UI w = w.toBitVec.toNat := rfl
theorem UI_inj {a b : Int32} (h : UI a = UI b) : a = b := Int32.toBitVec_inj.mp (BitVec.eq_of_toNat_eq h)
theorem UI_and31 (k : Int32) : (k &&& 31).toUInt32.toNat = UI k % 32 := by
  rw [Int32.toUInt32_and, UInt32.toNat_and]
  exact Nat.and_two_pow_sub_one_eq_mod _ 5
theorem UI_ushr (x k : Int32) : UI ((x.toUInt32 >>> (k &&& 31).toUInt32).toInt32) = UI x / 2 ^ (UI k % 32) := by
  show (UInt32.toInt32 _).toUInt32.toNat = _
  rw [UInt32.toUInt32_toInt32, UInt32.toNat_shiftRight, UI_and31, Nat.shiftRight_eq_div_pow, Nat.mod_mod]; rfl
theorem UI_toInt (x : Int32) : x.toInt = if UI x < 2147483648 then (UI x : Int) else (UI x : Int) - 4294967296 := by
  have h := BitVec.toInt_eq_toNat_cond x.toBitVec
  have e : x.toInt = x.toBitVec.toInt := rfl
  rw [e, h, UI_bv]
  split <;> split <;> omega
theorem UI_zero {x : Int32} : UI x = 0 ↔ x = 0 := ⟨fun h => UI_inj (h.trans rfl), fun h => by subst h; rfl⟩
theorem UI_add (x y : Int32) : UI (x + y) = (UI x + UI y) % 4294967296 := by
  show (x + y).toBitVec.toNat = _; rw [Int32.toBitVec_add, BitVec.toNat_add]; rfl
theorem UI_sub (x y : Int32) : UI (x - y) = (4294967296 - UI y + UI x) % 4294967296 := by
  show (x - y).toBitVec.toNat = _; rw [Int32.toBitVec_sub, BitVec.toNat_sub]; rfl
theorem UI_or (x y : Int32) : UI (x ||| y) = UI x ||| UI y := by
  show (x ||| y).toBitVec.toNat = _; rw [Int32.toBitVec_or, BitVec.toNat_or]; rfl
theorem UI_and (x y : Int32) : UI (x &&& y) = UI x &&& UI y := by
  show (x &&& y).toBitVec.toNat = _; rw [Int32.toBitVec_and, BitVec.toNat_and]; rfl
theorem UI_xor (x y : Int32) : UI (x ^^^ y) = UI x ^^^ UI y := by
  show (x ^^^ y).toBitVec.toNat = _; rw [Int32.toBitVec_xor, BitVec.toNat_xor]; rfl
theorem I_lt (x y : Int32) : x < y ↔ x.toInt < y.toInt := Int32.lt_iff_toInt_lt
/-- the words of a long -/
def UJ (q : Int64) : Nat := q.toUInt64.toNat
theorem UJ_lt (q : Int64) : UJ q < 18446744073709551616 := q.toUInt64.toNat_lt
theorem UJ_bv (q : Int64) : UJ q = q.toBitVec.toNat := rfl
theorem UJ_lo (q : Int64) : UI q.toInt32 = UJ q % 4294967296 := by
  show q.toInt32.toBitVec.toNat = _
  rw [Int64.toBitVec_toInt32, BitVec.signExtend_eq_setWidth_of_le _ (by decide), BitVec.toNat_setWidth]; rfl
theorem UJ_ushr32 (q : Int64) : UJ ((q.toUInt64 >>> ((32 : Int32) &&& 0x3f).toInt64.toUInt64).toInt64) = UJ q / 4294967296 := by
  show (UInt64.toInt64 _).toUInt64.toNat = _
  rw [UInt64.toUInt64_toInt64, UInt64.toNat_shiftRight, Nat.shiftRight_eq_div_pow]; rfl
theorem UJ_hi (q : Int64) : UI ((q.toUInt64 >>> ((32 : Int32) &&& 0x3f).toInt64.toUInt64).toInt64).toInt32 = UJ q / 4294967296 := by
  rw [UJ_lo, UJ_ushr32]; have := UJ_lt q; omega
theorem UJ_toInt (q : Int64) : q.toInt = if UJ q < 9223372036854775808 then (UJ q : Int) else (UJ q : Int) - 18446744073709551616 := by
  have h := BitVec.toInt_eq_toNat_cond q.toBitVec
  have e : q.toInt = q.toBitVec.toInt := rfl
  rw [e, h, UJ_bv]
  split <;> split <;> omega
theorem UJ_neg (q : Int64) : UJ (-q) = (18446744073709551616 - UJ q) % 18446744073709551616 := by
  show (-q).toBitVec.toNat = _; rw [Int64.toBitVec_neg, BitVec.toNat_neg]; rfl
theorem UJ_pos {p : Int64} (h : ¬ p < 0) : (UJ p : Int) = p.toInt := by
  rw [Int64.lt_iff_toInt_lt, show (0 : Int64).toInt = 0 from rfl] at h
  have := UJ_toInt p; split at this <;> have := UJ_lt p <;> omega
theorem UJ_negv {p : Int64} (h : p < 0) : (UJ (-p) : Int) = - p.toInt := by
  rw [Int64.lt_iff_toInt_lt, show (0 : Int64).toInt = 0 from rfl] at h
  have := UJ_toInt p; have := UJ_neg p; split at * <;> have := UJ_lt p <;> omega
/-- the mask of the low zeros -/
theorem and_mask (k j N : Nat) (hN : 2 ^ (k + 1) * j + 2 ^ k < 2 ^ N) : (2 ^ N - 1 - (2 ^ (k + 1) * j + 2 ^ k)) &&& (2 ^ (k + 1) * j + 2 ^ k - 1) = 2 ^ k - 1 := by
  have hp : 0 < 2 ^ k := Nat.two_pow_pos k
  have e1 : 2 ^ (k + 1) * j + 2 ^ k - 1 = 2 ^ (k + 1) * j + (2 ^ k - 1) := by omega
  apply Nat.eq_of_testBit_eq
  intro i
  have l1 : 2 ^ k < 2 ^ (k + 1) := by rw [Nat.pow_succ]; omega
  rw [Nat.testBit_and, Nat.testBit_two_pow_sub_one, e1]
  have hc : (2 ^ N - 1 - (2 ^ (k + 1) * j + 2 ^ k)).testBit i = (decide (i < N) && !(2 ^ (k + 1) * j + 2 ^ k).testBit i) := by
    rw [Nat.sub_sub, Nat.add_comm 1, Nat.testBit_two_pow_sub_succ hN]
  rw [hc, Nat.testBit_two_pow_mul_add _ l1, Nat.testBit_two_pow_mul_add _ (show 2 ^ k - 1 < 2 ^ (k + 1) by omega), Nat.testBit_two_pow_sub_one, Nat.testBit_two_pow]
  have hkN : k < N := (Nat.pow_lt_pow_iff_right (by decide : 1 < 2)).mp (by omega : 2 ^ k < 2 ^ N)
  by_cases h1 : i < k + 1
  · simp only [h1, if_true]
    by_cases h2 : i < k
    · have : ¬ k = i := by omega
      have : i < N := by omega
      simp [*]
    · simp [h2]
  · simp only [h1, if_false]
    have : ¬ i < k := by omega
    simp [this]
theorem twoadic (X : Nat) (h : 0 < X) : ∃ k j, X = 2 ^ (k + 1) * j + 2 ^ k := by
  induction X using Nat.strongRecOn with
  | _ X ih =>
    by_cases he : X % 2 = 1
    · exact ⟨0, X / 2, by simp; omega⟩
    · obtain ⟨k, j, e⟩ := ih (X / 2) (by omega) (by omega)
      refine ⟨k + 1, j, ?_⟩
      have : X = 2 * (X / 2) := by omega
      rw [this, e, Nat.pow_succ 2 (k + 1), Nat.pow_succ 2 k, Nat.mul_add]
      simp [Nat.mul_comm, Nat.mul_left_comm]
/-- n is the number of low zeros of x -/
def IsNtz (x n : Int32) : Prop := ∃ k j, k < 32 ∧ UI n = k ∧ UI x = 2 ^ (k + 1) * j + 2 ^ k
theorem ntz_mask {x : Int32} (hx : x ≠ 0) : ∃ k j, k < 32 ∧ UI x = 2 ^ (k + 1) * j + 2 ^ k ∧ UI ((x ^^^ (-1)) &&& (x - 1)) = 2 ^ k - 1 := by
  have h0 : 0 < UI x := Nat.pos_of_ne_zero fun h => hx (UI_zero.mp h)
  obtain ⟨k, j, e⟩ := twoadic _ h0
  have hl := UI_lt x
  have hk : k < 32 := (Nat.pow_lt_pow_iff_right (by decide : 1 < 2)).mp (by omega : 2 ^ k < 2 ^ 32)
  refine ⟨k, j, hk, e, ?_⟩
  rw [UI_and]
  have e1 : UI (x ^^^ (-1)) = 2 ^ 32 - 1 - (2 ^ (k + 1) * j + 2 ^ k) := by
    have : x ^^^ (-1) = ~~~ x := by
      apply Int32.toBitVec_inj.mp; rw [Int32.toBitVec_xor, Int32.toBitVec_not]; exact BitVec.xor_allOnes
    rw [this, ← e]
    show (~~~ x).toBitVec.toNat = _
    rw [Int32.toBitVec_not, BitVec.toNat_not]; rfl
  have e2 : UI (x - 1) = 2 ^ (k + 1) * j + 2 ^ k - 1 := by
    rw [UI_sub, ← e, show UI 1 = 1 from rfl]; omega
  rw [e1, e2]
  exact and_mask k j 32 (by omega)
/-- the stages of numberOfTrailingZeros -/
def NtzI (k : Nat) (B : Nat) (n y : Int32) : Prop := ∃ j, 1 ≤ j ∧ j ≤ B ∧ UI y = 2 ^ j - 1 ∧ UI n = k + 1 - j ∧ j ≤ k ∧ k < 32
theorem I_pos_lt {x y : Int32} (hx : UI x < 2147483648) (hy : UI y < 2147483648) : x < y ↔ UI x < UI y := by
  rw [I_lt, UI_toInt, UI_toInt, if_pos hx, if_pos hy]; omega
theorem pow_small {j : Nat} (h : j ≤ 31) : 2 ^ j ≤ 2147483648 := Nat.pow_le_pow_right (by decide) h
theorem ntz_stage {k B b : Nat} {n y c s q : Int32} (h : NtzI k B n y) (hB : B ≤ 31) (hs : UI s = b) (hq : UI q = b) (hb : 1 ≤ b) (hb2 : b ≤ 16) (hc : UI c = 2 ^ b) (hB2 : B ≤ 2 * b) (hy : c < y) : NtzI k b (n + q) ((y.toUInt32 >>> (s &&& 31).toUInt32).toInt32) := by
  obtain ⟨j, h1, h2, h3, h4, h5, h6⟩ := h
  have hp := pow_small (show j ≤ 31 by omega)
  have hpb := pow_small (show b ≤ 31 by omega)
  have hb3 : 2 ^ b ≤ 2 ^ 16 := Nat.pow_le_pow_right (by decide) hb2
  rw [I_pos_lt (by omega) (by omega), hc, h3] at hy
  have hj : b < j := (Nat.pow_lt_pow_iff_right (by decide : 1 < 2)).mp (by omega : 2 ^ b < 2 ^ j)
  refine ⟨j - b, by omega, by omega, ?_, ?_, by omega, h6⟩
  · rw [UI_ushr, hs, Nat.mod_eq_of_lt (by omega), h3]
    have e : 2 ^ j = 2 ^ b * 2 ^ (j - b) := by rw [← Nat.pow_add]; congr 1; omega
    have hp2 : 0 < 2 ^ b := Nat.two_pow_pos b
    have hp3 : 0 < 2 ^ (j - b) := Nat.two_pow_pos _
    rw [e]
    apply Nat.div_eq_of_lt_le
    · rw [Nat.sub_mul, Nat.mul_comm (2 ^ (j - b))]; omega
    · rw [Nat.sub_add_cancel hp3, Nat.mul_comm (2 ^ (j - b))]
      have : 0 < 2 ^ b * 2 ^ (j - b) := Nat.mul_pos hp2 hp3
      omega
  · rw [UI_add, h4, hq]; omega
theorem ntz_stay {k B b : Nat} {n y c : Int32} (h : NtzI k B n y) (hB : B ≤ 31) (hb : 1 ≤ b) (hb2 : b ≤ 16) (hc : UI c = 2 ^ b) (hy : ¬ c < y) : NtzI k b n y := by
  obtain ⟨j, h1, h2, h3, h4, h5, h6⟩ := h
  have hp := pow_small (show j ≤ 31 by omega)
  have hb3 : 2 ^ b ≤ 2 ^ 16 := Nat.pow_le_pow_right (by decide) hb2
  rw [I_pos_lt (by omega) (by omega), hc, h3] at hy
  refine ⟨j, h1, ?_, h3, h4, h5, h6⟩
  refine Nat.not_lt.mp fun hj => ?_
  have : 2 ^ (b + 1) ≤ 2 ^ j := Nat.pow_le_pow_right (by decide) hj
  have := Nat.pow_le_pow_right (n := 2) (by decide) hb
  rw [Nat.pow_succ] at *
  omega
theorem ntz_end {k : Nat} {n y : Int32} (h : NtzI k 2 n y) : UI (n + ((y.toUInt32 >>> ((1 : Int32) &&& 31).toUInt32).toInt32)) = k := by
  obtain ⟨j, h1, h2, h3, h4, h5, h6⟩ := h
  rw [UI_add, UI_ushr, h3, h4, show UI (1 : Int32) = 1 from rfl]
  have : j = 1 ∨ j = 2 := by omega
  rcases this with rfl | rfl <;> simp <;> omega
/-- the stages of numberOfLeadingZeros -/
def NlzI (x : Int32) (B : Nat) (n y : Int32) : Prop := ∃ i, i ≤ 31 ∧ B ≤ i + 1 ∧ UI n = i ∧ 0 < UI y ∧ UI y < 2 ^ B ∧ UI y < 2147483648 ∧ UI y = UI x / 2 ^ (31 - i)
/-- z zeros lead x -/
def IsNlz (x z : Int32) : Prop := ∃ b, 1 ≤ b ∧ b ≤ 32 ∧ UI z = 32 - b ∧ 2 ^ (b - 1) ≤ UI x ∧ UI x < 2 ^ b
theorem nlz_first {x : Int32} (h : 0 < x) : NlzI x 32 31 x := by
  have h1 : 0 < x.toInt := by rw [I_lt] at h; exact h
  rw [UI_toInt] at h1
  have := UI_lt x
  refine ⟨31, Nat.le_refl _, Nat.le_refl _, rfl, ?_, ?_, ?_, by simp⟩ <;> split at h1 <;> omega
theorem nlz_stage {b : Nat} {x n y c s q : Int32} (h : NlzI x (2 * b) n y) (hs : UI s = b) (hq : UI q = 4294967296 - b) (hb2 : b ≤ 16) (hb : 1 ≤ b) (hc : UI c = 2 ^ b) (hy : ¬ y < c) : NlzI x b (n + q) ((y.toUInt32 >>> (s &&& 31).toUInt32).toInt32) := by
  obtain ⟨i, h1, h0, h2, h3, h4, h6, h5⟩ := h
  have hpb := pow_small (show b ≤ 31 by omega)
  have hb3 : 2 ^ b ≤ 2 ^ 16 := Nat.pow_le_pow_right (by decide) hb2
  rw [I_pos_lt (by omega) (by omega), hc] at hy
  have hp2 : 0 < 2 ^ b := Nat.two_pow_pos b
  have hu : UI ((y.toUInt32 >>> (s &&& 31).toUInt32).toInt32) = UI y / 2 ^ b := by rw [UI_ushr, hs, Nat.mod_eq_of_lt (by omega)]
  refine ⟨i - b, by omega, by omega, ?_, ?_, ?_, ?_, ?_⟩
  · rw [UI_add, h2, hq]; omega
  · rw [hu]; exact Nat.div_pos (by omega) hp2
  · rw [hu]
    apply Nat.div_lt_of_lt_mul
    rw [← Nat.pow_add, ← Nat.two_mul]
    exact h4
  · rw [hu]; exact Nat.lt_of_le_of_lt (Nat.div_le_self _ _) h6
  · rw [hu, h5, Nat.div_div_eq_div_mul, ← Nat.pow_add]
    congr 2; omega
theorem nlz_stay {b : Nat} {x n y c : Int32} (h : NlzI x (2 * b) n y) (hb2 : b ≤ 16) (hc : UI c = 2 ^ b) (hy : y < c) : NlzI x b n y := by
  obtain ⟨i, h1, h0, h2, h3, h4, h6, h5⟩ := h
  have hb3 : 2 ^ b ≤ 2 ^ 16 := Nat.pow_le_pow_right (by decide) hb2
  rw [I_pos_lt (by omega) (by omega), hc] at hy
  exact ⟨i, h1, by omega, h2, h3, hy, h6, h5⟩
theorem nlz_end {x n y : Int32} (h : NlzI x 2 n y) : IsNlz x (n - ((y.toUInt32 >>> ((1 : Int32) &&& 31).toUInt32).toInt32)) := by
  obtain ⟨i, h1, h0, h2, h3, h4, h6, h5⟩ := h
  have hp : 0 < 2 ^ (31 - i) := Nat.two_pow_pos _
  have e : UI y * 2 ^ (31 - i) ≤ UI x ∧ UI x < (UI y + 1) * 2 ^ (31 - i) := by
    rw [h5]; refine ⟨Nat.div_mul_le_self _ _, ?_⟩
    have a := Nat.div_add_mod (UI x) (2 ^ (31 - i)); have b := Nat.mod_lt (UI x) hp
    rw [Nat.add_mul, Nat.mul_comm]; omega
  have hy : UI y = 1 ∨ UI y = 2 ∨ UI y = 3 := by omega
  have hz : UI (n - ((y.toUInt32 >>> ((1 : Int32) &&& 31).toUInt32).toInt32)) = i - UI y / 2 := by
    rw [UI_sub, UI_ushr, h2, show UI (1 : Int32) % 32 = 1 from rfl]; omega
  rcases hy with hy | hy | hy <;> rw [hy] at e hz
  · refine ⟨32 - i, by omega, by omega, by rw [hz]; omega, ?_, ?_⟩
    · rw [show 32 - i - 1 = 31 - i by omega]; omega
    · rw [show 32 - i = 31 - i + 1 by omega, Nat.pow_succ]; omega
  · refine ⟨33 - i, by omega, by omega, by rw [hz]; omega, ?_, ?_⟩
    · rw [show 33 - i - 1 = 31 - i + 1 by omega, Nat.pow_succ]; omega
    · rw [show 33 - i = 31 - i + 1 + 1 by omega, Nat.pow_succ, Nat.pow_succ]; omega
  · refine ⟨33 - i, by omega, by omega, by rw [hz]; omega, ?_, ?_⟩
    · rw [show 33 - i - 1 = 31 - i + 1 by omega, Nat.pow_succ]; omega
    · rw [show 33 - i = 31 - i + 1 + 1 by omega, Nat.pow_succ, Nat.pow_succ]; omega
theorem nlz_neg {x : Int32} (h : ¬ 0 < x) (h0 : ¬ x = 0) : IsNlz x 0 := by
  have h1 : ¬ 0 < x.toInt := by rw [I_lt] at h; exact h
  have h2 : UI x ≠ 0 := fun e => h0 (UI_zero.mp e)
  rw [UI_toInt] at h1
  have := UI_lt x
  refine ⟨32, by decide, by decide, rfl, ?_, this⟩
  split at h1 <;> omega
/-- b is the bit length of x -/
def IsBl (x b : Int32) : Prop := ∃ n, 1 ≤ n ∧ n ≤ 32 ∧ UI b = n ∧ 2 ^ (n - 1) ≤ UI x ∧ UI x < 2 ^ n
theorem IsNlz.bl {x z : Int32} (h : IsNlz x z) : IsBl x ((32 : Int32) - z) := by
  obtain ⟨b, h1, h2, h3, h4, h5⟩ := h
  refine ⟨b, h1, h2, ?_, h4, h5⟩
  rw [UI_sub, h3, show UI (32 : Int32) = 32 from rfl]; omega
theorem IsNtz.lt_bl {x n b : Int32} (h : IsNtz x n) (hb : IsBl x b) : n < b := by
  obtain ⟨k, j, h1, h2, h3⟩ := h
  obtain ⟨m, g1, g2, g3, g4, g5⟩ := hb
  rw [I_pos_lt (by omega) (by omega), h2, g3]
  exact (Nat.pow_lt_pow_iff_right (by decide : 1 < 2)).mp (by omega : 2 ^ k < 2 ^ m)
theorem IsNtz.rng {x n : Int32} (h : IsNtz x n) : UI n < 32 := by obtain ⟨k, j, h1, h2, h3⟩ := h; omega
theorem IsNtz.shr {x n : Int32} (h : IsNtz x n) : (x.toUInt32 >>> (n &&& 31).toUInt32).toInt32 ≠ 0 := fun e => by
  obtain ⟨k, j, h1, h2, h3⟩ := h
  have := congrArg UI e
  rw [UI_ushr, h2, Nat.mod_eq_of_lt h1, h3, show UI 0 = 0 from rfl] at this
  have hp : 0 < 2 ^ k := Nat.two_pow_pos k
  have := Nat.div_pos (show 2 ^ k ≤ 2 ^ (k + 1) * j + 2 ^ k by omega) hp
  omega
theorem ushr_le (x n : Int32) : UI ((x.toUInt32 >>> (n &&& 31).toUInt32).toInt32) ≤ UI x := by rw [UI_ushr]; exact Nat.div_le_self _ _
theorem bl_shr {x n b : Int32} (hb : IsBl x b) (hn : UI n < 32) (h : n < b) : (x.toUInt32 >>> (n &&& 31).toUInt32).toInt32 ≠ 0 := fun e => by
  obtain ⟨m, g1, g2, g3, g4, g5⟩ := hb
  rw [I_pos_lt (by omega) (by omega), g3] at h
  have := congrArg UI e
  rw [UI_ushr, Nat.mod_eq_of_lt hn, show UI 0 = 0 from rfl] at this
  have h2 : 2 ^ UI n ≤ 2 ^ (m - 1) := Nat.pow_le_pow_right (by decide) (by omega)
  have := Nat.div_pos (show 2 ^ UI n ≤ UI x by omega) (Nat.two_pow_pos _)
  omega
theorem ntz_first {k : Nat} {y : Int32} (em : UI y = 2 ^ k - 1) (hk : k < 32) (c : 0 < y) : NtzI k 31 1 y := by
  have h1 : 0 < y.toInt := by rw [I_lt] at c; exact c
  rw [UI_toInt] at h1
  have h2 : UI y ≠ 0 := by intro e; rw [e] at h1; simp at h1
  have hk1 : 1 ≤ k := Nat.pos_of_ne_zero fun e => by subst e; exact h2 em
  exact ⟨k, hk1, by omega, em, by rw [show UI (1 : Int32) = 1 from rfl]; omega, Nat.le_refl _, hk⟩
theorem ntz_none {k j : Nat} {x y : Int32} (ex : UI x = 2 ^ (k + 1) * j + 2 ^ k) (em : UI y = 2 ^ k - 1) (hk : k < 32) (c : ¬ 0 < y) : IsNtz x (y &&& 32) := by
  have h1 : ¬ 0 < y.toInt := by rw [I_lt] at c; exact c
  rw [UI_toInt] at h1
  have hp := pow_small (show k ≤ 31 by omega)
  have hp0 : 0 < 2 ^ k := Nat.two_pow_pos k
  have h2 : UI y = 0 := by split at h1 <;> omega
  have hk0 : k = 0 := by
    refine Nat.eq_zero_of_not_pos fun h => ?_
    have := Nat.pow_le_pow_right (n := 2) (by decide) h
    omega
  subst hk0
  exact ⟨0, j, by decide, by rw [UI_and, h2]; simp, ex⟩
theorem IsNtz.nonneg {x n : Int32} (h : IsNtz x n) : ¬ n < 0 := by
  have := h.rng
  rw [I_pos_lt (by omega) (by decide)]; exact Nat.not_lt_zero _
theorem IsNtz.nonneg32 {x n : Int32} (h : IsNtz x n) : ¬ (32 : Int32) + n < 0 := by
  have := h.rng
  have e : UI ((32 : Int32) + n) = 32 + UI n := by rw [UI_add, show UI (32 : Int32) = 32 from rfl]; omega
  rw [I_pos_lt (by omega) (by decide)]; exact Nat.not_lt_zero _
theorem IsNtz.ne32 {x n : Int32} (h : IsNtz x n) : ¬ (0 : Int32) = (32 : Int32) + n := fun q => by
  have := h.rng
  have e : UI ((32 : Int32) + n) = 32 + UI n := by rw [UI_add, show UI (32 : Int32) = 32 from rfl]; omega
  rw [← q, show UI (0 : Int32) = 0 from rfl] at e; omega
theorem shr5 {n : Int32} (h : UI n < 32) : (n.toUInt32 >>> ((5 : Int32) &&& 31).toUInt32).toInt32 = 0 := UI_inj (by rw [UI_ushr, show UI (5 : Int32) % 32 = 5 from rfl, show UI (0 : Int32) = 0 from rfl]; omega)
theorem and31 {n : Int32} (h : UI n < 32) : n &&& (31 : Int32) = n := UI_inj (by
  have e : UI (n &&& 31) = UI n % 32 := UI_and31 n
  omega)
theorem shr5b {n : Int32} (h : UI n < 32) : (((32 : Int32) + n).toUInt32 >>> ((5 : Int32) &&& 31).toUInt32).toInt32 = 1 := UI_inj (by rw [UI_ushr, UI_add, show UI (5 : Int32) % 32 = 5 from rfl, show UI (32 : Int32) = 32 from rfl, show UI (1 : Int32) = 1 from rfl]; omega)
theorem and31b {n : Int32} (h : UI n < 32) : ((32 : Int32) + n) &&& (31 : Int32) = n := UI_inj (by
  have e : UI (((32 : Int32) + n) &&& 31) = UI ((32 : Int32) + n) % 32 := UI_and31 _
  rw [e, UI_add, show UI (32 : Int32) = 32 from rfl]; omega)
theorem or_ne {x y : Int32} (h : y ≠ 0) : x ||| y ≠ 0 := fun q => h (UI_zero.mp (by
  have e := congrArg UI q
  rw [UI_or, show UI (0 : Int32) = 0 from rfl] at e
  exact Nat.eq_of_testBit_eq fun i => by
    have := congrArg (fun z => z.testBit i) e
    simp only [Nat.testBit_or, Nat.zero_testBit, Bool.or_eq_false_iff] at this ⊢
    exact this.2))
/-- what a right shift by its low zeros makes of two words: t words are left -/
def Rs (t x y h l : Int32) : Prop := x ≠ 0 ∧ (t = 1 ∨ (t = 2 ∧ y ≠ 0 ∧ UI x * 4294967296 + UI y ≤ UI h * 4294967296 + UI l))
theorem rs_two {h l n b z : Int32} (hn : IsNtz l n) (hb : IsBl h b) (c : n < b) (n0 : ¬ n = 0) : Rs 2 ((h.toUInt32 >>> (n &&& 31).toUInt32).toInt32) (z ||| (l.toUInt32 >>> (n &&& 31).toUInt32).toInt32) h l := by
  have h1 := bl_shr hb hn.rng c
  refine ⟨h1, Or.inr ⟨rfl, or_ne hn.shr, ?_⟩⟩
  have e := UI_ushr h n
  have hr := hn.rng
  have n1 : UI n ≠ 0 := fun q => n0 (UI_zero.mp q)
  have p0 : UI ((h.toUInt32 >>> (n &&& 31).toUInt32).toInt32) ≠ 0 := fun q => h1 (UI_zero.mp q)
  rw [Nat.mod_eq_of_lt hr] at e
  have : UI h / 2 ^ UI n ≤ UI h / 2 := Nat.div_le_div_left (by have := Nat.pow_le_pow_right (n := 2) (by decide) (show 1 ≤ UI n by omega); omega) (by decide)
  have := UI_lt (z ||| (l.toUInt32 >>> (n &&& 31).toUInt32).toInt32)
  omega
theorem UJ_mask (y : Int32) : UJ (y.toInt64 &&& (4294967295 : Int64)) = UI y := by
  show (y.toInt64 &&& (4294967295 : Int64)).toBitVec.toNat = _
  rw [Int64.toBitVec_and, BitVec.toNat_and]
  have e : (4294967295 : Int64).toBitVec.toNat = 2 ^ 32 - 1 := by decide
  rw [e, Nat.and_two_pow_sub_one_eq_mod, Int32.toBitVec_toInt64]
  have h1 := BitVec.toNat_lt_twoPow_of_le (x := y.toBitVec) (n := 32) (by decide)
  rw [BitVec.toNat_signExtend, BitVec.toNat_setWidth]
  show _ = y.toBitVec.toNat
  split <;> omega
theorem UJ_sub (x y : Int64) : UJ (x - y) = (18446744073709551616 - UJ y + UJ x) % 18446744073709551616 := by
  show (x - y).toBitVec.toNat = _; rw [Int64.toBitVec_sub, BitVec.toNat_sub]; rfl
theorem UJ_add (x y : Int64) : UJ (x + y) = (UJ x + UJ y) % 18446744073709551616 := by
  show (x + y).toBitVec.toNat = _; rw [Int64.toBitVec_add, BitVec.toNat_add]; rfl
theorem dif_uj {y : Int32} (h : ¬ y = 0) : UJ (((y.toInt64 &&& (4294967295 : Int64)) - (1 : Int64)) + (0 : Int64)) = UI y - 1 := by
  have h1 : UI y ≠ 0 := fun q => h (UI_zero.mp q)
  have := UI_lt y
  rw [UJ_add, UJ_sub, UJ_mask, show UJ (1 : Int64) = 1 from rfl, show UJ (0 : Int64) = 0 from rfl]; omega
theorem dif_lo {y : Int32} (h : ¬ y = 0) : UI (((y.toInt64 &&& (4294967295 : Int64)) - (1 : Int64)) + (0 : Int64)).toInt32 + 1 = UI y := by
  have h1 : UI y ≠ 0 := fun q => h (UI_zero.mp q)
  have := UI_lt y
  rw [UJ_lo, dif_uj h]; omega
theorem dif_ge {y : Int32} (h : ¬ y = 0) : ¬ (((y.toInt64 &&& (4294967295 : Int64)) - (1 : Int64)) + (0 : Int64)) < (0 : Int64) := by
  have e := dif_uj h
  have := UI_lt y
  rw [Int64.lt_iff_toInt_lt, UJ_toInt, e, if_pos (by omega), show (0 : Int64).toInt = 0 from rfl]; omega
/-- one turn of binaryGcd's loop -/
theorem gcd_turn {a n : Int32} (h1 : ¬ a = 1) (h0 : ¬ a = 0) (hn : IsNtz (a - 1) n) : ¬ ((a - 1).toUInt32 >>> (n &&& 31).toUInt32).toInt32 = 0 ∧ UI (((a - 1).toUInt32 >>> (n &&& 31).toUInt32).toInt32) < UI a := by
  refine ⟨hn.shr, Nat.lt_of_le_of_lt (ushr_le _ _) ?_⟩
  have : UI a ≠ 0 := fun q => h0 (UI_zero.mp q)
  have := UI_lt a
  rw [UI_sub, show UI (1 : Int32) = 1 from rfl]; omega
theorem sub1_ne {a : Int32} (h1 : ¬ a = 1) : ¬ a - 1 = 0 := fun q => h1 (UI_inj (by
  have e := congrArg UI q
  have := UI_lt a
  rw [UI_sub, show UI (1 : Int32) = 1 from rfl, show UI (0 : Int32) = 0 from rfl] at e
  rw [show UI (1 : Int32) = 1 from rfl]; omega))
theorem gt_one {a : Int32} (h1 : ¬ a = 1) (h0 : ¬ a = 0) : (1 : Int32) + (-2147483648 : Int32) < a + (-2147483648 : Int32) := by
  have : UI a ≠ 0 := fun q => h0 (UI_zero.mp q)
  have : UI a ≠ 1 := fun q => h1 (UI_inj (by rw [q]; rfl))
  have := UI_lt a
  have e : UI (a + (-2147483648 : Int32)) = (UI a + 2147483648) % 4294967296 := by rw [UI_add]; rfl
  rw [I_lt, UI_toInt, UI_toInt, e, show UI ((1 : Int32) + (-2147483648 : Int32)) = 2147483649 by decide +kernel]
  split <;> split <;> omega
theorem rs_low {l n : Int32} (hn : IsNtz l n) : (l.toUInt32 >>> (((32 : Int32) - ((32 : Int32) - n)) &&& 31).toUInt32).toInt32 ≠ 0 := by
  have e : (32 : Int32) - ((32 : Int32) - n) = n := UI_inj (by have := UI_lt n; rw [UI_sub, UI_sub, show UI (32 : Int32) = 32 from rfl]; omega)
  rw [e]; exact hn.shr
theorem rs_meas {x y y' x3 y3 : Int32} {n : Nat} (h1 : UI x * 4294967296 + UI y ≤ UI x3 * 4294967296 + UI y3) (h2 : UI y' + 1 = UI y) (hm : UI x3 * 4294967296 + UI y3 < n + 1) : UI x * 4294967296 + UI y' < n := by
  rw [← h2, ← Nat.add_assoc] at h1
  exact Nat.lt_of_lt_of_le (Nat.lt_succ_self _) (Nat.le_trans h1 (Nat.le_of_lt_succ hm))
/-- the low zeros of two words -/
def Gz (x y z : Int32) : Prop := (¬ y = 0 ∧ IsNtz y z) ∨ (y = 0 ∧ ∃ w, z = (32 : Int32) + w ∧ IsNtz x w)
theorem Gz.nonneg {x y z : Int32} (h : Gz x y z) : ¬ z < 0 := by
  rcases h with ⟨-, h⟩ | ⟨-, w, rfl, h⟩
  · exact h.nonneg
  · exact h.nonneg32
theorem Gz.odd {x y z : Int32} (h : Gz x y z) (c : (0 : Int32) = z) : ¬ y = 0 := by
  rcases h with ⟨h, -⟩ | ⟨-, w, rfl, h⟩
  · exact h
  · exact absurd c h.ne32
theorem gt1b {a : Int32} (h1 : ¬ a = 1) (h0 : ¬ a = 0) : (-2147483647 : Int32) < a + (-2147483648 : Int32) := by
  have e : (-2147483647 : Int32) = (1 : Int32) + (-2147483648 : Int32) := by decide
  rw [e]; exact gt_one h1 h0
theorem nlt1b {a : Int32} (h1 : ¬ a = 1) (h0 : ¬ a = 0) : ¬ a + (-2147483648 : Int32) < (-2147483647 : Int32) := by
  have q := gt1b h1 h0
  rw [I_lt] at *; omega
theorem UJ_inj {a b : Int64} (h : UJ a = UJ b) : a = b := Int64.toBitVec_inj.mp (BitVec.eq_of_toNat_eq h)
theorem J_div1 (t : Int64) : t / (1 : Int64) = t := by
  apply Int64.toInt_inj.mp
  rw [Int64.toInt_div_of_ne_right _ _ (by decide)]
  rw [show (1 : Int64).toInt = 1 from rfl, Int.tdiv_one]
theorem J_mul1 (t : Int64) : t * (1 : Int64) = t := Int64.mul_one t
theorem div1 (x : Int32) : ((x.toInt64 &&& (4294967295 : Int64)) / (1 : Int64)).toInt32 = x := by
  rw [J_div1]; apply UI_inj; rw [UJ_lo, UJ_mask]; have := UI_lt x; omega
theorem UI_i2l (x : Int32) : UJ x.toInt64 % 4294967296 = UI x := by
  rw [← UJ_lo, Int32.toInt32_toInt64]
theorem rem1 (x : Int32) : ((x.toInt64 &&& (4294967295 : Int64)) - (x.toInt64 * (1 : Int64))).toInt32 = 0 := by
  rw [J_mul1]; apply UI_inj; rw [UJ_lo, UJ_sub, UJ_mask, show UI (0 : Int32) = 0 from rfl]; have := UI_lt x; have := UI_i2l x; have := UJ_lt x.toInt64; omega
theorem J_or0 (t : Int64) : (0 : Int64) ||| t = t := by
  apply UJ_inj; rw [UJ_bv, UJ_bv]; simp
theorem J_lt (x y : Int64) : x < y ↔ x.toInt < y.toInt := Int64.lt_iff_toInt_lt
theorem mask_toInt (x : Int32) : (x.toInt64 &&& (4294967295 : Int64)).toInt = UI x := by
  rw [UJ_toInt, UJ_mask]; have := UI_lt x; split <;> omega
theorem mask_nneg (x : Int32) : ¬ (x.toInt64 &&& (4294967295 : Int64)) < (0 : Int64) := by
  rw [J_lt, mask_toInt, show (0 : Int64).toInt = 0 from rfl]; omega
theorem UI_ne {x : Int32} (h : ¬ x = 0) : 0 < UI x := Nat.pos_of_ne_zero fun q => h (UI_zero.mp q)
theorem mask_ge1 {x : Int32} (h : ¬ x = 0) : ¬ (x.toInt64 &&& (4294967295 : Int64)) < (1 : Int64) := by
  rw [J_lt, mask_toInt, show (1 : Int64).toInt = 1 from rfl]; have := UI_ne h; omega
theorem mask_lt {x y : Int32} : (x.toInt64 &&& (4294967295 : Int64)) < (y.toInt64 &&& (4294967295 : Int64)) ↔ UI x < UI y := by
  rw [J_lt, mask_toInt, mask_toInt]; omega
/-- what compareMagnitude and compareTo say -/
def Cm (c : Int32) (x y : Int) : Prop := (c = (-1 : Int32) ∧ x < y) ∨ (c = (0 : Int32) ∧ x = y) ∨ (c = (1 : Int32) ∧ y < x)
theorem Cm.of {c : Int32} {x y a b : Int} (h : Cm c x y) (h1 : x < y → a < b) (h2 : x = y → a = b) (h3 : y < x → b < a) : Cm c a b := by
  rcases h with ⟨e, q⟩ | ⟨e, q⟩ | ⟨e, q⟩
  · exact Or.inl ⟨e, h1 q⟩
  · exact Or.inr (Or.inl ⟨e, h2 q⟩)
  · exact Or.inr (Or.inr ⟨e, h3 q⟩)
/-- the two words of a positive long -/
theorem hi_one {q : Int64} (h : ((q.toUInt64 >>> ((32 : Int32) &&& 0x3f).toInt64.toUInt64).toInt64).toInt32 = (0 : Int32)) : UI q.toInt32 = UJ q := by
  have e := UJ_hi q; rw [h, show UI (0 : Int32) = 0 from rfl] at e; rw [UJ_lo]; omega
theorem hi_two (q : Int64) : (UI ((q.toUInt64 >>> ((32 : Int32) &&& 0x3f).toInt64.toUInt64).toInt64).toInt32 : Int) * 4294967296 + UI q.toInt32 = UJ q := by
  rw [UJ_hi, UJ_lo]; omega
theorem UJ_ne {q : Int64} (h : ¬ q = 0) : 0 < UJ q := Nat.pos_of_ne_zero fun e => h (UJ_inj (e.trans rfl))
theorem lo_ne {q : Int64} (h : ((q.toUInt64 >>> ((32 : Int32) &&& 0x3f).toInt64.toUInt64).toInt64).toInt32 = (0 : Int32)) (hq : ¬ q = 0) : ¬ q.toInt32 = (0 : Int32) := fun e => by
  have a := hi_one h; rw [e, show UI (0 : Int32) = 0 from rfl] at a; have := UJ_ne hq; omega
theorem Jneg_ne {p : Int64} (h : ¬ p = 0) : ¬ -p = 0 := fun e => h (by have := congrArg (fun z => -z) e; simpa using this)
theorem toInt_ne {p : Int64} (h : ¬ p = 0) : p.toInt ≠ 0 := fun e => h (Int64.toInt_inj.mp (e.trans rfl))
theorem bij_p1 {p : Int64} (hn : ¬ p < 0) (h : ((p.toUInt64 >>> ((32 : Int32) &&& 0x3f).toInt64.toUInt64).toInt64).toInt32 = (0 : Int32)) : p.toInt = (UI p.toInt32 : Int) := by rw [hi_one h, UJ_pos hn]
theorem bij_n1 {p : Int64} (hn : p < 0) (h : (((-p).toUInt64 >>> ((32 : Int32) &&& 0x3f).toInt64.toUInt64).toInt64).toInt32 = (0 : Int32)) : p.toInt = - (UI (-p).toInt32 : Int) := by rw [hi_one h, UJ_negv hn]; omega
theorem bij_p2 {p : Int64} (hn : ¬ p < 0) : p.toInt = (UI ((p.toUInt64 >>> ((32 : Int32) &&& 0x3f).toInt64.toUInt64).toInt64).toInt32 : Int) * 4294967296 + UI p.toInt32 := by rw [hi_two, UJ_pos hn]
theorem bij_n2 {p : Int64} (hn : p < 0) : p.toInt = - ((UI (((-p).toUInt64 >>> ((32 : Int32) &&& 0x3f).toInt64.toUInt64).toInt64).toInt32 : Int) * 4294967296 + UI (-p).toInt32) := by rw [hi_two, UJ_negv hn]; omega
theorem small_idx {t : Int64} (h0 : 0 < t.toInt) (h1 : t.toInt ≤ 16) : ¬ t.toInt32 < 0 ∧ t.toInt32 < 17 ∧ 1 ≤ t.toInt32.toNatClampNeg ∧ t.toInt32.toNatClampNeg ≤ 16 ∧ (t.toInt32.toNatClampNeg : Int) = t.toInt := by
  have e : (UJ t : Int) = t.toInt := UJ_pos (by rw [J_lt, show (0 : Int64).toInt = 0 from rfl]; omega)
  have q : UI t.toInt32 = UJ t := by rw [UJ_lo]; omega
  have r : t.toInt32.toInt = t.toInt := by rw [UI_toInt, q]; split <;> omega
  have n : t.toInt32.toNatClampNeg = t.toInt.toNat := by rw [← r]; rfl
  rw [I_lt, I_lt, r, n, show (0 : Int32).toInt = 0 from rfl, show (17 : Int32).toInt = 17 from rfl]
  omega
theorem neg_toInt {p : Int64} (h : -16 ≤ p.toInt) : (-p).toInt = - p.toInt := by
  rw [Int64.toInt_neg]; apply Int.bmod_eq_of_le <;> have := Int64.toInt_lt p <;> omega
theorem vo_zero {p : Int64} (c : lcmpW p (0 : Int64) = 0) : (0 : Int) = p.toInt := by rw [(lw_eq _ _).mp c]; rfl
theorem vo_ne {p : Int64} (c : ¬ lcmpW p (0 : Int64) = 0) : ¬ p = 0 := fun q => c ((lw_eq _ _).mpr q)
theorem vo_pos {p : Int64} (c : (0 : Int32) < lcmpW p (0 : Int64)) : 0 < p.toInt := by have := (lw_gt _ _).mp c; rw [J_lt] at this; exact this
theorem vo_le {p : Int64} (c : ¬ (0 : Int32) < lcmpW p (16 : Int64)) : p.toInt ≤ 16 := by rw [lw_gt, J_lt, show (16 : Int64).toInt = 16 from rfl] at c; omega
theorem vo_neg {p : Int64} (c : lcmpW p (0 : Int64) < 0) : p.toInt < 0 := by have := (lw_lt _ _).mp c; rw [J_lt] at this; exact this
theorem vo_ge {p : Int64} (c : ¬ lcmpW p (-16 : Int64) < 0) : -16 ≤ p.toInt := by rw [lw_lt, J_lt, show (-16 : Int64).toInt = -16 from rfl] at c; omega
theorem vo_nneg {p : Int64} (c : (0 : Int32) < lcmpW p (0 : Int64)) : ¬ lcmpW p (0 : Int64) < 0 := fun q => by have := vo_pos c; have := vo_neg q; omega
theorem vo_nidx {p : Int64} (c : lcmpW p (0 : Int64) < 0) (d : ¬ lcmpW p (-16 : Int64) < 0) : 0 < (-p).toInt ∧ (-p).toInt ≤ 16 ∧ (-p).toInt = - p.toInt := by
  have a := vo_neg c; have b := vo_ge d; rw [neg_toInt b]; omega
theorem cm_eq {x y : Int32} (h : x = y) : Cm 0 (UI x) (UI y) := Or.inr (Or.inl ⟨rfl, by rw [h]⟩)
theorem cm_lt {x y : Int32} (h : lcmpW (x.toInt64 &&& (4294967295 : Int64)) (y.toInt64 &&& (4294967295 : Int64)) < 0) : Cm (-1) (UI x) (UI y) := Or.inl ⟨rfl, by have := mask_lt.mp ((lw_lt _ _).mp h); omega⟩
theorem cm_gt {x y : Int32} (n : ¬ x = y) (h : ¬ lcmpW (x.toInt64 &&& (4294967295 : Int64)) (y.toInt64 &&& (4294967295 : Int64)) < 0) : Cm 1 (UI x) (UI y) := Or.inr (Or.inr ⟨rfl, by
  have a : ¬ UI x < UI y := fun q => h ((lw_lt _ _).mpr (mask_lt.mpr q))
  have b : ¬ UI x = UI y := fun q => n (UI_inj q)
  omega⟩)
theorem cm2_hi {c x y x1 y1 : Int32} (n : ¬ x = y) (h : Cm c (UI x) (UI y)) : Cm c ((UI x : Int) * 4294967296 + UI x1) ((UI y : Int) * 4294967296 + UI y1) := by
  have b : ¬ UI x = UI y := fun q => n (UI_inj q)
  have l1 := UI_lt x1; have l2 := UI_lt y1
  exact h.of (fun q => by omega) (fun q => by omega) (fun q => by omega)
theorem cm2_lo {c x y x1 y1 : Int32} (e : x = y) (h : Cm c (UI x1) (UI y1)) : Cm c ((UI x : Int) * 4294967296 + UI x1) ((UI y : Int) * 4294967296 + UI y1) := by
  subst e; exact h.of (fun q => by omega) (fun q => by omega) (fun q => by omega)
theorem Cm.uniq {c d : Int32} {x y : Int} (h : Cm c x y) (g : Cm d x y) : c = d := by
  rcases h with ⟨rfl, q⟩ | ⟨rfl, q⟩ | ⟨rfl, q⟩ <;> rcases g with ⟨rfl, r⟩ | ⟨rfl, r⟩ | ⟨rfl, r⟩ <;> first | rfl | omega
theorem sg_neg {p : Int64} (c : lcmpW p (0 : Int64) < 0) : Cm (-1) p.toInt 0 := Or.inl ⟨rfl, vo_neg c⟩
theorem sg_pos {p : Int64} (c : (0 : Int32) < lcmpW p (0 : Int64)) : Cm 1 p.toInt 0 := Or.inr (Or.inr ⟨rfl, vo_pos c⟩)
theorem sg_zero {p : Int64} (c : ¬ lcmpW p (0 : Int64) < 0) (d : ¬ (0 : Int32) < lcmpW p (0 : Int64)) : Cm 0 p.toInt 0 := Or.inr (Or.inl ⟨rfl, by
  rw [lw_lt, J_lt, show (0 : Int64).toInt = 0 from rfl] at c; rw [lw_gt, J_lt, show (0 : Int64).toInt = 0 from rfl] at d; omega⟩)
theorem lw_ltI {a b : Int64} : lcmpW a b < 0 ↔ a.toInt < b.toInt := by rw [lw_lt, J_lt]
theorem lw_gtI {a b : Int64} : (0 : Int32) < lcmpW a b ↔ b.toInt < a.toInt := by rw [lw_gt, J_lt]
theorem lw_eqI {a b : Int64} : lcmpW a b = 0 ↔ a.toInt = b.toInt := by rw [lw_eq, Int64.toInt_inj]
/-- four bytes -/
def Q4 (a b c d : Nat) : Nat := ((a * 256 + b) * 256 + c) * 256 + d
theorem and_split (x m : Nat) {lo ml : Nat} (h : lo < 256) (h' : ml < 256) : (x * 256 + lo) &&& (m * 256 + ml) = (x &&& m) * 256 + (lo &&& ml) := by
  apply Nat.eq_of_testBit_eq; intro i
  have hl : (lo &&& ml) < 2 ^ 8 := Nat.lt_of_le_of_lt Nat.and_le_left h
  rw [Nat.testBit_and, Nat.mul_comm x, Nat.mul_comm m, Nat.mul_comm (x &&& m), show (256 : Nat) = 2 ^ 8 from rfl, Nat.testBit_two_pow_mul_add _ h, Nat.testBit_two_pow_mul_add _ h', Nat.testBit_two_pow_mul_add _ hl]
  split <;> rw [Nat.testBit_and]
theorem Q4_and {a b c d m : Nat} (hb : b < 256) (hc : c < 256) (hd : d < 256) (hm : m < 256) : Q4 a b c d &&& Q4 m m m m = Q4 (a &&& m) (b &&& m) (c &&& m) (d &&& m) := by
  unfold Q4; rw [and_split _ _ hd hm, and_split _ _ hc hm, and_split _ _ hb hm]
theorem bcm1 : ∀ b : Fin 256, ∀ h : Fin 2, (h.val * 128 + b.val / 2) &&& 85 = (b.val / 2) &&& 85 := by decide +kernel
theorem bcm2 : ∀ b : Fin 256, ∀ h : Fin 4, (h.val * 64 + b.val / 4) &&& 51 = (b.val / 4) &&& 51 := by decide +kernel
theorem bcm3 : ∀ b : Fin 69, ∀ h : Fin 16, (b.val + (h.val * 16 + b.val / 16)) &&& 15 = (b.val + b.val / 16) &&& 15 := by decide +kernel
def bg1 (b : Nat) : Nat := b - ((b / 2) &&& 85)
def bg2 (b : Nat) : Nat := (b &&& 51) + ((b / 4) &&& 51)
def bg3 (b : Nat) : Nat := (b + b / 16) &&& 15
def bg (b : Nat) : Nat := bg3 (bg2 (bg1 b))
theorem bg1_le : ∀ b : Fin 256, (b.val / 2) &&& 85 ≤ b.val := by decide +kernel
theorem bg2_le : ∀ b : Fin 256, bg2 (bg1 b.val) < 69 ∧ bg2 (bg1 b.val) % 16 ≤ 4 := by decide +kernel
theorem bg_le : ∀ b : Fin 256, bg b.val ≤ 8 ∧ (bg b.val = 0 → b.val = 0) := by decide +kernel
theorem bg_one : ∀ b : Fin 256, bg b.val = 1 → b.val = 1 ∨ b.val = 2 ∨ b.val = 4 ∨ b.val = 8 ∨ b.val = 16 ∨ b.val = 32 ∨ b.val = 64 ∨ b.val = 128 := by decide +kernel
theorem bg1_lt {b : Nat} (h : b < 256) : bg1 b < 256 := Nat.lt_of_le_of_lt (Nat.sub_le _ _) h
theorem UI_ushrN (x k : Int32) {n : Nat} (hk : UI k % 32 = n) : UI ((x.toUInt32 >>> (k &&& 31).toUInt32).toInt32) = UI x / 2 ^ n := by rw [UI_ushr, hk]
theorem bc_st1 {x : Int32} {a b c d : Nat} (ha : a < 256) (hb : b < 256) (hc : c < 256) (hd : d < 256) (e : UI x = Q4 a b c d) : UI (x - (((x.toUInt32 >>> ((1 : Int32) &&& 31).toUInt32).toInt32) &&& (1431655765 : Int32))) = Q4 (bg1 a) (bg1 b) (bg1 c) (bg1 d) := by
  have s : UI x / 2 ^ 1 = Q4 (a / 2) (a % 2 * 128 + b / 2) (b % 2 * 128 + c / 2) (c % 2 * 128 + d / 2) := by rw [e]; unfold Q4; omega
  have m : UI (1431655765 : Int32) = Q4 85 85 85 85 := by decide +kernel
  rw [UI_sub, UI_and, UI_ushrN _ _ (n := 1) rfl, s, m, Q4_and (by omega) (by omega) (by omega) (by decide)]
  have q1 := bcm1 ⟨b, hb⟩ ⟨a % 2, by omega⟩; have q2 := bcm1 ⟨c, hc⟩ ⟨b % 2, by omega⟩; have q3 := bcm1 ⟨d, hd⟩ ⟨c % 2, by omega⟩
  simp only at q1 q2 q3
  rw [q1, q2, q3, e]
  have l1 := bg1_le ⟨a, ha⟩; have l2 := bg1_le ⟨b, hb⟩; have l3 := bg1_le ⟨c, hc⟩; have l4 := bg1_le ⟨d, hd⟩
  simp only at l1 l2 l3 l4
  unfold Q4 bg1; omega
theorem bc_st2 {x : Int32} {a b c d : Nat} (ha : a < 256) (hb : b < 256) (hc : c < 256) (hd : d < 256) (e : UI x = Q4 a b c d) (wa : bg2 a < 256) (wb : bg2 b < 256) (wc : bg2 c < 256) (wd : bg2 d < 256) : UI ((x &&& (858993459 : Int32)) + (((x.toUInt32 >>> ((2 : Int32) &&& 31).toUInt32).toInt32) &&& (858993459 : Int32))) = Q4 (bg2 a) (bg2 b) (bg2 c) (bg2 d) := by
  have s : UI x / 2 ^ 2 = Q4 (a / 4) (a % 4 * 64 + b / 4) (b % 4 * 64 + c / 4) (c % 4 * 64 + d / 4) := by rw [e]; unfold Q4; omega
  have m : UI (858993459 : Int32) = Q4 51 51 51 51 := by decide +kernel
  rw [UI_add, UI_and, UI_and, UI_ushrN _ _ (n := 2) rfl, s, m, e, Q4_and hb hc hd (by decide), Q4_and (by omega) (by omega) (by omega) (by decide)]
  have q1 := bcm2 ⟨b, hb⟩ ⟨a % 4, by omega⟩; have q2 := bcm2 ⟨c, hc⟩ ⟨b % 4, by omega⟩; have q3 := bcm2 ⟨d, hd⟩ ⟨c % 4, by omega⟩
  simp only at q1 q2 q3
  rw [q1, q2, q3]
  unfold bg2 at *; unfold Q4; omega
theorem bc_st3 {x : Int32} {a b c d : Nat} (ha : a < 69) (hb : b < 69) (hc : c < 69) (hd : d < 69) (na : a % 16 ≤ 4) (nb : b % 16 ≤ 4) (nc : c % 16 ≤ 4) (e : UI x = Q4 a b c d) : UI ((x + ((x.toUInt32 >>> ((4 : Int32) &&& 31).toUInt32).toInt32)) &&& (252645135 : Int32)) = Q4 (bg3 a) (bg3 b) (bg3 c) (bg3 d) := by
  have s : UI x / 2 ^ 4 = Q4 (a / 16) (a % 16 * 16 + b / 16) (b % 16 * 16 + c / 16) (c % 16 * 16 + d / 16) := by rw [e]; unfold Q4; omega
  have m : UI (252645135 : Int32) = Q4 15 15 15 15 := by decide +kernel
  have t : (Q4 a b c d + Q4 (a / 16) (a % 16 * 16 + b / 16) (b % 16 * 16 + c / 16) (c % 16 * 16 + d / 16)) % 4294967296 = Q4 (a + a / 16) (b + (a % 16 * 16 + b / 16)) (c + (b % 16 * 16 + c / 16)) (d + (c % 16 * 16 + d / 16)) := by unfold Q4; omega
  rw [UI_and, UI_add, UI_ushrN _ _ (n := 4) rfl, s, m, e, t, Q4_and (by omega) (by omega) (by omega) (by decide)]
  have q1 := bcm3 ⟨b, hb⟩ ⟨a % 16, by omega⟩; have q2 := bcm3 ⟨c, hc⟩ ⟨b % 16, by omega⟩; have q3 := bcm3 ⟨d, hd⟩ ⟨c % 16, by omega⟩
  simp only at q1 q2 q3
  rw [q1, q2, q3]; unfold bg3; rfl
def IsPow (x : Int32) : Prop := ∃ k, k < 32 ∧ UI x = 2 ^ k
theorem bc_end {x p4 p5 : Int32} {a b c d : Nat} (ha : a ≤ 8) (hb : b ≤ 8) (hc : c ≤ 8) (hd : d ≤ 8) (e : UI x = Q4 a b c d) (e4 : p4 = x + ((x.toUInt32 >>> ((8 : Int32) &&& 31).toUInt32).toInt32)) (e5 : p5 = p4 + ((p4.toUInt32 >>> ((16 : Int32) &&& 31).toUInt32).toInt32)) : UI (p5 &&& (63 : Int32)) = a + b + c + d := by
  have f4 : UI p4 = Q4 a (a + b) (b + c) (c + d) := by rw [e4, UI_add, UI_ushrN _ _ (n := 8) rfl, e]; unfold Q4; omega
  have f5 : UI p5 = Q4 a (a + b) (b + c + a) (c + d + (a + b)) := by
    have g : Q4 a (a + b) (b + c) (c + d) / 2 ^ 16 = a * 256 + (a + b) := by
      have r : Q4 a (a + b) (b + c) (c + d) = (a * 256 + (a + b)) * 65536 + ((b + c) * 256 + (c + d)) := by unfold Q4; omega
      rw [r]; omega
    rw [e5, UI_add, UI_ushrN _ _ (n := 16) rfl, f4, g]; unfold Q4; omega
  rw [UI_and, show UI (63 : Int32) = 2 ^ 6 - 1 from by decide +kernel, Nat.and_two_pow_sub_one_eq_mod, f5]; unfold Q4; omega
theorem bc_pow {x p1 p2 p3 p4 p5 : Int32} (e1 : p1 = x - (((x.toUInt32 >>> ((1 : Int32) &&& 31).toUInt32).toInt32) &&& (1431655765 : Int32))) (e2 : p2 = (p1 &&& (858993459 : Int32)) + (((p1.toUInt32 >>> ((2 : Int32) &&& 31).toUInt32).toInt32) &&& (858993459 : Int32))) (e3 : p3 = (p2 + ((p2.toUInt32 >>> ((4 : Int32) &&& 31).toUInt32).toInt32)) &&& (252645135 : Int32)) (e4 : p4 = p3 + ((p3.toUInt32 >>> ((8 : Int32) &&& 31).toUInt32).toInt32)) (e5 : p5 = p4 + ((p4.toUInt32 >>> ((16 : Int32) &&& 31).toUInt32).toInt32)) (h : p5 &&& (63 : Int32) = 1) : IsPow x := by
  have hx := UI_lt x
  obtain ⟨a, b, c, d, ha, hb, hc, hd, e⟩ : ∃ a b c d, a < 256 ∧ b < 256 ∧ c < 256 ∧ d < 256 ∧ UI x = Q4 a b c d := ⟨UI x / 16777216, UI x / 65536 % 256, UI x / 256 % 256, UI x % 256, by omega, by omega, by omega, by omega, by unfold Q4; omega⟩
  have f1 : UI p1 = Q4 (bg1 a) (bg1 b) (bg1 c) (bg1 d) := by rw [e1]; exact bc_st1 ha hb hc hd e
  have w1 := bg2_le ⟨a, ha⟩; have w2 := bg2_le ⟨b, hb⟩; have w3 := bg2_le ⟨c, hc⟩; have w4 := bg2_le ⟨d, hd⟩
  simp only at w1 w2 w3 w4
  have f2 : UI p2 = Q4 (bg2 (bg1 a)) (bg2 (bg1 b)) (bg2 (bg1 c)) (bg2 (bg1 d)) := by rw [e2]; exact bc_st2 (bg1_lt ha) (bg1_lt hb) (bg1_lt hc) (bg1_lt hd) f1 (by omega) (by omega) (by omega) (by omega)
  have f3 : UI p3 = Q4 (bg a) (bg b) (bg c) (bg d) := by rw [e3]; exact bc_st3 w1.1 w2.1 w3.1 w4.1 w1.2 w2.2 w3.2 f2
  have g1 := bg_le ⟨a, ha⟩; have g2 := bg_le ⟨b, hb⟩; have g3 := bg_le ⟨c, hc⟩; have g4 := bg_le ⟨d, hd⟩
  simp only at g1 g2 g3 g4
  have f := bc_end g1.1 g2.1 g3.1 g4.1 f3 e4 e5
  rw [h, show UI (1 : Int32) = 1 from rfl] at f
  have key : ∀ (n : Nat) (v : Nat) (hv : v < 256), bg v = 1 → ∃ k, k < 8 ∧ v = 2 ^ k := fun n v hv q => by
    rcases bg_one ⟨v, hv⟩ q with q | q | q | q | q | q | q | q <;> simp only at q
    · exact ⟨0, by omega, q⟩
    · exact ⟨1, by omega, q⟩
    · exact ⟨2, by omega, q⟩
    · exact ⟨3, by omega, q⟩
    · exact ⟨4, by omega, q⟩
    · exact ⟨5, by omega, q⟩
    · exact ⟨6, by omega, q⟩
    · exact ⟨7, by omega, q⟩
  rcases (by omega : (bg a = 1 ∧ bg b = 0 ∧ bg c = 0 ∧ bg d = 0) ∨ (bg a = 0 ∧ bg b = 1 ∧ bg c = 0 ∧ bg d = 0) ∨ (bg a = 0 ∧ bg b = 0 ∧ bg c = 1 ∧ bg d = 0) ∨ (bg a = 0 ∧ bg b = 0 ∧ bg c = 0 ∧ bg d = 1)) with ⟨q1, q2, q3, q4⟩ | ⟨q1, q2, q3, q4⟩ | ⟨q1, q2, q3, q4⟩ | ⟨q1, q2, q3, q4⟩
  · obtain ⟨k, hk, r⟩ := key 0 a ha q1; have := g2.2 q2; have := g3.2 q3; have := g4.2 q4; exact ⟨k + 24, by omega, by rw [e, Nat.pow_add, ← r]; unfold Q4; omega⟩
  · obtain ⟨k, hk, r⟩ := key 0 b hb q2; have := g1.2 q1; have := g3.2 q3; have := g4.2 q4; exact ⟨k + 16, by omega, by rw [e, Nat.pow_add, ← r]; unfold Q4; omega⟩
  · obtain ⟨k, hk, r⟩ := key 0 c hc q3; have := g1.2 q1; have := g2.2 q2; have := g4.2 q4; exact ⟨k + 8, by omega, by rw [e, Nat.pow_add, ← r]; unfold Q4; omega⟩
  · obtain ⟨k, hk, r⟩ := key 0 d hd q4; have := g1.2 q1; have := g2.2 q2; have := g3.2 q3; exact ⟨k, by omega, by rw [e, ← r]; unfold Q4; omega⟩
theorem UJ_mul (x y : Int64) : UJ (x * y) = UJ x * UJ y % 18446744073709551616 := by
  simp only [UJ_bv, Int64.toBitVec_mul, BitVec.toNat_mul]
theorem mul_uj (x y : Int32) : UJ (((x.toInt64 &&& (4294967295 : Int64)) * (y.toInt64 &&& (4294967295 : Int64))) + (0 : Int64)) = UI x * UI y := by
  rw [Int64.add_zero, UJ_mul, UJ_mask, UJ_mask]
  exact Nat.mod_eq_of_lt (Nat.lt_of_lt_of_le (Nat.mul_lt_mul'' (UI_lt x) (UI_lt y)) (by decide))
theorem mul_pos2 {x y : Int32} (hx : ¬ x = 0) (hy : ¬ y = 0) : 0 < UI x * UI y := Nat.mul_pos (UI_ne hx) (UI_ne hy)
/-- no carry: one word -/
theorem mb_car0 {t : Int64} (c : lcmpW ((t.toUInt64 >>> ((32 : Int32) &&& 0x3f).toInt64.toUInt64).toInt64) (0 : Int64) = 0) : UI t.toInt32 = UJ t := by
  have e := UJ_ushr32 t; rw [(lw_eq _ _).mp c, show UJ (0 : Int64) = 0 from rfl] at e; rw [UJ_lo]; omega
theorem mb_car1 {t : Int64} (c : ¬ lcmpW ((t.toUInt64 >>> ((32 : Int32) &&& 0x3f).toInt64.toUInt64).toInt64) (0 : Int64) = 0) : ¬ ((t.toUInt64 >>> ((32 : Int32) &&& 0x3f).toInt64.toUInt64).toInt64).toInt32 = 0 := fun q => c ((lw_eq _ _).mpr (UJ_inj (by
  have a := UJ_hi t; rw [q, show UI (0 : Int32) = 0 from rfl] at a
  rw [UJ_ushr32, show UJ (0 : Int64) = 0 from rfl]; exact a.symm)))
theorem mb_ne {x y : Int32} {t : Int64} (hx : ¬ x = 0) (hy : ¬ y = 0) (ht : UJ t = UI x * UI y) (e : UI t.toInt32 = UJ t) : ¬ t.toInt32 = 0 := fun q => by
  have := mul_pos2 hx hy; rw [q, show UI (0 : Int32) = 0 from rfl] at e; omega
theorem mb_two {t : Int64} {n : Nat} (ht : UJ t = n) : ((UI ((t.toUInt64 >>> ((32 : Int32) &&& 0x3f).toInt64.toUInt64).toInt64).toInt32 : Int) * 4294967296 + UI t.toInt32) = (n : Int) := by rw [hi_two, ht]
theorem mulpp {va vb : Int} {a b : Nat} (h1 : va = a) (h2 : vb = b) : (1 : Int32).toInt * ((a * b : Nat) : Int) = va * vb := by subst h1 h2; rw [show (1 : Int32).toInt = 1 from rfl, Int.one_mul]; exact Int.natCast_mul a b
theorem mulpn {va vb : Int} {a b : Nat} (h1 : va = a) (h2 : vb = -(b : Int)) : (-1 : Int32).toInt * ((a * b : Nat) : Int) = va * vb := by subst h1 h2; rw [show (-1 : Int32).toInt = -1 from by decide +kernel, Int.natCast_mul, Int.mul_neg, Int.neg_mul, Int.one_mul]
theorem mulnp {va vb : Int} {a b : Nat} (h1 : va = -(a : Int)) (h2 : vb = b) : (-1 : Int32).toInt * ((a * b : Nat) : Int) = va * vb := by subst h1 h2; rw [show (-1 : Int32).toInt = -1 from by decide +kernel, Int.natCast_mul, Int.neg_mul, Int.neg_mul, Int.one_mul]
theorem mulnn {va vb : Int} {a b : Nat} (h1 : va = -(a : Int)) (h2 : vb = -(b : Int)) : (1 : Int32).toInt * ((a * b : Nat) : Int) = va * vb := by subst h1 h2; rw [show (1 : Int32).toInt = 1 from rfl, Int.one_mul, Int.natCast_mul, Int.neg_mul_neg]
theorem UI_shl (x k : Int32) : UI (x <<< (k &&& 31)) = UI x * 2 ^ (UI k % 32) % 4294967296 := by
  have e : (k &&& 31).toInt = (UI k % 32 : Nat) := by
    have h := UI_and31 k
    rw [UI_toInt, show UI (k &&& 31) = UI k % 32 from h]; split <;> omega
  have f : (x <<< (k &&& 31)).toBitVec = x.toBitVec <<< (UI k % 32) := by
    rw [Int32.toBitVec_shiftLeft]
    have g : (k &&& 31).toBitVec.smod 32 = BitVec.ofNat 32 (UI k % 32) := by
      apply BitVec.eq_of_toInt_eq
      rw [BitVec.toInt_smod]
      have h1 : (k &&& 31).toBitVec.toInt = (UI k % 32 : Nat) := e
      rw [h1, show (32 : BitVec 32).toInt = 32 from rfl, BitVec.toInt_ofNat']
      rw [Int.fmod_eq_emod_of_nonneg _ (by decide), Int.bmod_eq_of_le] <;> omega
    rw [g]
    apply BitVec.eq_of_toNat_eq
    rw [BitVec.shiftLeft_eq', BitVec.toNat_ofNat, Nat.mod_eq_of_lt (a := UI k % 32) (by omega)]
  rw [UI_bv, f, BitVec.toNat_shiftLeft, Nat.shiftLeft_eq, ← UI_bv]
theorem pow_ntz {y n : Int32} (h : IsPow y) (hn : IsNtz y n) : UI y = 2 ^ UI n := by
  obtain ⟨K, hK, e⟩ := h
  obtain ⟨k, j, hk, en, ey⟩ := hn
  rw [en]
  have hle : k ≤ K := (Nat.pow_le_pow_iff_right (by decide : 1 < 2)).mp (by rw [← e, ey]; omega)
  obtain ⟨d, rfl⟩ := Nat.exists_eq_add_of_le hle
  have q : 2 ^ d = 2 * j + 1 := by
    have : 2 ^ k * 2 ^ d = 2 ^ k * (2 * j + 1) := by rw [← Nat.pow_add, ← e, ey, Nat.pow_succ, Nat.mul_add, Nat.mul_one, Nat.mul_assoc]
    exact Nat.eq_of_mul_eq_mul_left (Nat.two_pow_pos k) this
  rcases d with _ | d
  · exact e
  · rw [Nat.pow_succ] at q; omega
theorem sh_all {x n : Int32} (h : UI n < 32) (n0 : ¬ n = 0) : UI ((x.toUInt32 >>> (((32 : Int32) - n) &&& 31).toUInt32).toInt32) * 4294967296 + UI (x <<< (n &&& 31)) = UI x * 2 ^ UI n := by
  have p := UI_ne n0
  have e32 : UI ((32 : Int32) - n) = 32 - UI n := by rw [UI_sub, show UI (32 : Int32) = 32 from rfl]; omega
  rw [UI_ushr, UI_shl, e32, Nat.mod_eq_of_lt (a := 32 - UI n) (by omega), Nat.mod_eq_of_lt h]
  have q : UI x / 2 ^ (32 - UI n) = UI x * 2 ^ UI n / 4294967296 := by
    have r : 4294967296 = 2 ^ (32 - UI n) * 2 ^ UI n := by rw [← Nat.pow_add, show 32 - UI n + UI n = 32 from by omega]
    rw [r, Nat.mul_div_mul_right _ _ (Nat.two_pow_pos _)]
  rw [q]; omega
theorem sh_one {x n : Int32} (h : UI n < 32) (n0 : ¬ n = 0) (z : (x.toUInt32 >>> (((32 : Int32) - n) &&& 31).toUInt32).toInt32 = 0) : UI (x <<< (n &&& 31)) = UI x * 2 ^ UI n := by
  have a := sh_all (x := x) h n0; rw [z, show UI (0 : Int32) = 0 from rfl] at a; omega
theorem i2l_toInt (p : Int32) : p.toInt64.toInt = p.toInt := Int32.toInt_toInt64 p
theorem i2l_small (p : Int32) : p.toInt64.toInt.natAbs < 4294967296 := by rw [i2l_toInt, UI_toInt]; have := UI_lt p; split <;> omega
theorem mul_i2l (p q : Int32) : (p.toInt64 * q.toInt64).toInt = p.toInt64.toInt * q.toInt64.toInt := by
  rw [Int64.toInt_mul, i2l_toInt, i2l_toInt]
  have a1 := Int32.toInt_lt p; have a2 := Int32.le_toInt p; have b1 := Int32.toInt_lt q; have b2 := Int32.le_toInt q
  have h1 : p.toInt.natAbs * q.toInt.natAbs ≤ 2147483648 * 2147483648 := Nat.mul_le_mul (by omega) (by omega)
  rw [← Int.natAbs_mul] at h1
  apply Int.bmod_eq_of_le <;> omega
theorem own_tri (a b : Prop) : a ∨ (¬ a ∧ b) ∨ (¬ a ∧ ¬ b) := by
  by_cases h : a
  · exact Or.inl h
  · by_cases k : b
    · exact Or.inr (Or.inl ⟨h, k⟩)
    · exact Or.inr (Or.inr ⟨h, k⟩)
theorem sv0 {x y : Int32} (p : IsPow y) (hn : IsNtz y 0) : ((UI x * UI y : Nat) : Int) = (UI x : Int) := by rw [pow_ntz p hn, show UI (0 : Int32) = 0 from rfl, Nat.pow_zero, Nat.mul_one]
theorem sv1 {x y n : Int32} (p : IsPow y) (hn : IsNtz y n) (n0 : ¬ n = 0) (z : (x.toUInt32 >>> (((32 : Int32) - n) &&& 31).toUInt32).toInt32 = 0) : ((UI x * UI y : Nat) : Int) = (UI (x <<< (n &&& 31)) : Int) := by rw [pow_ntz p hn, sh_one hn.rng n0 z]
theorem sv1n {x y n : Int32} (p : IsPow y) (hn : IsNtz y n) (n0 : ¬ n = 0) (z : (x.toUInt32 >>> (((32 : Int32) - n) &&& 31).toUInt32).toInt32 = 0) (hx : ¬ x = 0) : ¬ (x <<< (n &&& 31)) = 0 := fun q => by
  have a := sh_one (x := x) hn.rng n0 z; rw [q, show UI (0 : Int32) = 0 from rfl] at a
  have := Nat.mul_pos (UI_ne hx) (Nat.two_pow_pos (UI n)); omega
theorem sv2 {x y n : Int32} (p : IsPow y) (hn : IsNtz y n) (n0 : ¬ n = 0) : ((UI x * UI y : Nat) : Int) = (UI ((x.toUInt32 >>> (((32 : Int32) - n) &&& 31).toUInt32).toInt32) : Int) * 4294967296 + UI (x <<< (n &&& 31)) := by
  have a := sh_all (x := x) hn.rng n0; rw [pow_ntz p hn, ← a]; omega
theorem Cm.ngt {c : Int32} {x y : Int} (h : Cm c x y) (e : x ≤ y) : ¬ (0 : Int32) < c := by
  rcases h with ⟨rfl, q⟩ | ⟨rfl, q⟩ | ⟨rfl, q⟩
  · decide
  · decide
  · omega
theorem le3 {p q : Int32} (c : ¬ (0 : Int32) < lcmpW (p.toInt64 * q.toInt64) (100000 : Int64)) : p.toInt64.toInt * q.toInt64.toInt ≤ 100000 := by
  rw [lw_gt, J_lt, mul_i2l, show (100000 : Int64).toInt = 100000 from by decide +kernel] at c; omega
theorem own_iinc {tb : Tables} [Ours tb] {e : Env} {below : List Frame} {T target : State} {m : MethodId} {c : Code} {g : JFrame} (h : At T m c below) (hx : tb.exec = Jvm.exec) (hg : g.method = m) {k : Nat} {cst : Int} {x q : Int32} (hq : Int32.ofInt cst = q) {l' : Array Slot} (hd : decode c.code g.pc = .ok (.iinc k cst, 3)) (hl : g.locals[k]? = some (.val (.int x))) (hl' : storeLocals g.locals k (.int (x + q)) = some l')
    (hr : Steps tb e below (T.setTop { g with pc := g.pc + 3, locals := l' }) target) : Steps tb e below (T.setTop g) target := by subst hq; exact XS.iinc h hx hg hd hl hl' hr
section OwnBI
variable {Z : State} {h h' : Heap} {a : Addr} {v : Int}
def consts_1 : List (String × Nat) := []
/-- the BigInteger a is v; it has at most two words -/
def BI (Z : State) (h : Heap) (a : Addr) (v : Int) : Prop := ∃ m k, Exa Z h a "java/math/BigInteger" ∧ Fld Z h a "java/math/BigInteger" "mag" "[I" (.ref m) ∧ Exa Z h m "[I" ∧
  ((Fld Z h a "java/math/BigInteger" "signum" "I" (.int (0 : Int32)) ∧ Arv Z h m k .int (0 : Int32) [] (.int (0 : Int32)) ∧ v = 0) ∨
   (∃ w, ¬ w = (0 : Int32) ∧ Arv Z h m k .int (1 : Int32) [.int w] (.int (0 : Int32)) ∧ ((Fld Z h a "java/math/BigInteger" "signum" "I" (.int (1 : Int32)) ∧ v = UI w) ∨ (Fld Z h a "java/math/BigInteger" "signum" "I" (.int (-1 : Int32)) ∧ v = - (UI w : Int)))) ∨
   (∃ w u, ¬ w = (0 : Int32) ∧ Arv Z h m k .int (2 : Int32) [.int w, .int u] (.int (0 : Int32)) ∧ ((Fld Z h a "java/math/BigInteger" "signum" "I" (.int (1 : Int32)) ∧ v = (UI w : Int) * 4294967296 + UI u) ∨ (Fld Z h a "java/math/BigInteger" "signum" "I" (.int (-1 : Int32)) ∧ v = - ((UI w : Int) * 4294967296 + UI u)))))
theorem BI.lt (B : BI Z h a v) : a < h.size := by obtain ⟨_, _, E, -⟩ := B; exact E.lt
theorem BI.exa (B : BI Z h a v) : Exa Z h a "java/math/BigInteger" := by obtain ⟨_, _, E, -⟩ := B; exact E
theorem BI.keep (B : BI Z h a v) (K : Keep h h' []) : BI Z h' a v := by
  obtain ⟨m, k, E, Fm, Em, r⟩ := B
  refine ⟨m, k, E.keep K, Fm.keep K nin0, Em.keep K, ?_⟩
  rcases r with ⟨a, b, c⟩ | ⟨w, hn, A, (⟨a, b⟩ | ⟨a, b⟩)⟩ | ⟨w, u, hn, A, (⟨a, b⟩ | ⟨a, b⟩)⟩
  · exact Or.inl ⟨a.keep K nin0, b.keep K nin0, c⟩
  · exact Or.inr (Or.inl ⟨w, hn, A.keep K nin0, Or.inl ⟨a.keep K nin0, b⟩⟩)
  · exact Or.inr (Or.inl ⟨w, hn, A.keep K nin0, Or.inr ⟨a.keep K nin0, b⟩⟩)
  · exact Or.inr (Or.inr ⟨w, u, hn, A.keep K nin0, Or.inl ⟨a.keep K nin0, b⟩⟩)
  · exact Or.inr (Or.inr ⟨w, u, hn, A.keep K nin0, Or.inr ⟨a.keep K nin0, b⟩⟩)
theorem BI.ext (B : BI Z h a v) (E : Ext h h') : BI Z h' a v := B.keep ((Keep.refl h []).ext E)
theorem BI.one (B : BI Z h a 1) : ∃ m k, Exa Z h a "java/math/BigInteger" ∧ Fld Z h a "java/math/BigInteger" "mag" "[I" (.ref m) ∧ Exa Z h m "[I" ∧ Fld Z h a "java/math/BigInteger" "signum" "I" (.int (1 : Int32)) ∧ Arv Z h m k .int (1 : Int32) [.int (1 : Int32)] (.int (0 : Int32)) := by
  obtain ⟨m, k, E, Fm, Em, r⟩ := B
  refine ⟨m, k, E, Fm, Em, ?_⟩
  rcases r with ⟨a, b, c⟩ | ⟨w, hn, A, (⟨a, b⟩ | ⟨a, b⟩)⟩ | ⟨w, u, hn, A, (⟨a, b⟩ | ⟨a, b⟩)⟩
  · omega
  · have : w = 1 := UI_inj (by rw [show UI (1 : Int32) = 1 from rfl]; omega)
    subst this; exact ⟨a, A⟩
  · omega
  · have : UI w ≠ 0 := fun q => hn (UI_zero.mp q)
    omega
  · omega
theorem BI.cast {w : Int} (e : v = w) (B : BI Z h a v) : BI Z h a w := e ▸ B
theorem BI.keepX {b : Addr} {C : String} (B : BI Z h a v) (K : Keep h h' [b]) (Eb : Exa Z h b C) (h1 : "java/math/BigInteger" ≠ C) (h2 : "[I" ≠ C) : BI Z h' a v := by
  obtain ⟨m, k, E, Fm, Em, r⟩ := B
  have na : a ∉ [b] := ninS (E.ne Eb h1) nin0
  have nm : m ∉ [b] := ninS (Em.ne Eb h2) nin0
  refine ⟨m, k, E.keep K, Fm.keep K na, Em.keep K, ?_⟩
  rcases r with ⟨a, b, c⟩ | ⟨w, hn, A, (⟨a, b⟩ | ⟨a, b⟩)⟩ | ⟨w, u, hn, A, (⟨a, b⟩ | ⟨a, b⟩)⟩
  · exact Or.inl ⟨a.keep K na, b.keep K nm, c⟩
  · exact Or.inr (Or.inl ⟨w, hn, A.keep K nm, Or.inl ⟨a.keep K na, b⟩⟩)
  · exact Or.inr (Or.inl ⟨w, hn, A.keep K nm, Or.inr ⟨a.keep K na, b⟩⟩)
  · exact Or.inr (Or.inr ⟨w, u, hn, A.keep K nm, Or.inl ⟨a.keep K na, b⟩⟩)
  · exact Or.inr (Or.inr ⟨w, u, hn, A.keep K nm, Or.inr ⟨a.keep K na, b⟩⟩)
theorem BI.mk1 {m : Addr} {k : ClassId} {w s : Int32} {n : Int} (E : Exa Z h a "java/math/BigInteger") (Fm : Fld Z h a "java/math/BigInteger" "mag" "[I" (.ref m)) (Em : Exa Z h m "[I") (A : Arv Z h m k .int (1 : Int32) [.int w] (.int (0 : Int32))) (hn : ¬ w = 0) (F : Fld Z h a "java/math/BigInteger" "signum" "I" (.int s)) (hs : s = (1 : Int32) ∨ s = (-1 : Int32)) (hv : n = (UI w : Int)) : BI Z h a (s.toInt * n) := by
  refine ⟨m, k, E, Fm, Em, Or.inr (Or.inl ⟨w, hn, A, ?_⟩)⟩
  rcases hs with rfl | rfl
  · exact Or.inl ⟨F, by rw [show (1 : Int32).toInt = 1 from rfl, hv, Int.one_mul]⟩
  · exact Or.inr ⟨F, by rw [show (-1 : Int32).toInt = -1 from by decide +kernel, hv]; omega⟩
theorem BI.mk2 {m : Addr} {k : ClassId} {w u s : Int32} {n : Int} (E : Exa Z h a "java/math/BigInteger") (Fm : Fld Z h a "java/math/BigInteger" "mag" "[I" (.ref m)) (Em : Exa Z h m "[I") (A : Arv Z h m k .int (2 : Int32) [.int w, .int u] (.int (0 : Int32))) (hn : ¬ w = 0) (F : Fld Z h a "java/math/BigInteger" "signum" "I" (.int s)) (hs : s = (1 : Int32) ∨ s = (-1 : Int32)) (hv : n = (UI w : Int) * 4294967296 + UI u) : BI Z h a (s.toInt * n) := by
  refine ⟨m, k, E, Fm, Em, Or.inr (Or.inr ⟨w, u, hn, A, ?_⟩)⟩
  rcases hs with rfl | rfl
  · exact Or.inl ⟨F, by rw [show (1 : Int32).toInt = 1 from rfl, hv, Int.one_mul]⟩
  · exact Or.inr ⟨F, by rw [show (-1 : Int32).toInt = -1 from by decide +kernel, hv]; omega⟩
def Gl (Z : State) (zA oA pA nA : Addr) (kP kN : ClassId) (vP vN : List Value) : Prop :=
  Sta Z Z.heap "java/math/BigInteger" "ZERO" "Ljava/math/BigInteger;" (.ref zA) ∧ BI Z Z.heap zA (0 : Int) ∧ Sta Z Z.heap "java/math/BigInteger" "ONE" "Ljava/math/BigInteger;" (.ref oA) ∧ BI Z Z.heap oA (1 : Int) ∧
  Sta Z Z.heap "java/math/BigInteger" "posConst" "[Ljava/math/BigInteger;" (.ref pA) ∧ Arv Z Z.heap pA kP (.object "java/math/BigInteger") (17 : Int32) vP .null ∧ (∀ i : Nat, 1 ≤ i → i ≤ 16 → ∃ a, vP.getD i .null = .ref a ∧ BI Z Z.heap a (i : Int)) ∧
  Sta Z Z.heap "java/math/BigInteger" "negConst" "[Ljava/math/BigInteger;" (.ref nA) ∧ Arv Z Z.heap nA kN (.object "java/math/BigInteger") (17 : Int32) vN .null ∧ (∀ i : Nat, 1 ≤ i → i ≤ 16 → ∃ a, vN.getD i .null = .ref a ∧ BI Z Z.heap a (-(i : Int)))
end OwnBI
section OwnStart
variable {s : State} {args : Array Value}
theorem own_lenZ {t : Term} {a : Addr} {c : Cell} {ty : FieldType} {z : Int32} (e : t.eval args s none [] s = some (.ref a)) (A : Arr s s.heap a c ty) (h : (Jvm.Cond.eq (Jvm.Term.length t) (Jvm.Term.int z)).value args s none s [] = some true) : c.slots.size < 2 ^ 31 ∧ c.slots.size.toInt32 = z := by
  have q := eqv_i (Term.int_eval z) h
  have A' := A.fin (Vm.Alike.refl _)
  by_cases hl : c.slots.size < 2 ^ 31
  · rw [len_f e A' hl] at q
    exact ⟨hl, by injection q with q; injection q⟩
  · simp [Term.eval, e, A', hl] at q
theorem own_fldV {t : Term} {a : Addr} {C n d : String} {v : Value} (e : t.eval args s none [] s = some (.ref a)) (h : (Term.field t C n d).eval args s none [] s = some v) : Fld s s.heap a C n d v := Fld.start (by simpa [Term.eval, e] using h)
theorem own_elV {t : Term} {a : Addr} {c : Cell} {ty : FieldType} {j : Int32} {v : Value} (e : t.eval args s none [] s = some (.ref a)) (A : Arr s s.heap a c ty) (hj : ¬ j < 0) (h : (Term.elem t (Term.int j)).eval args s none [] s = some v) : c.slots[j.toNatClampNeg]? = some v := by
  rw [elem_f e (Term.int_eval j) (A.fin (Vm.Alike.refl _)) hj] at h; exact h
theorem own_hasL {c : Cell} : ∀ (vs : List Value) (i : Nat), (∀ j (h : j < vs.length), c.slots[i + j]? = some vs[j]) → HasL c i vs
  | [], _, _ => trivial
  | v :: r, i, H => ⟨H 0 (Nat.succ_pos _), own_hasL r (i + 1) fun j h => by have := H (j + 1) (Nat.succ_lt_succ h); rw [Nat.add_right_comm]; exact this⟩
theorem own_arvAll (hf : Fit s) {a : Addr} {c : Cell} {ty : FieldType} {z : Int32} {dv : Value} (A : Arr s s.heap a c ty) (q : c.slots.size < 2 ^ 31) (e : c.slots.size.toInt32 = z) (hz : ¬ z < 0) : Arv s s.heap a c.cls ty z c.slots.toList dv :=
  Arv.start hf A q e hz (by rw [← e]; simp only [Int32.toNatClampNeg, len_toInt q]; simp) (own_hasL _ _ fun j h => by rw [Nat.zero_add]; simp at h; simp [h])
theorem own_biW (hf : Fit s) {t : Term} {a : Addr} {j g : Int32} {v : Int} (e : t.eval args s none [] s = some (.ref a)) (e1 : (Cond.exactly t "java/math/BigInteger").before args s = true)
    (e2 : (Cond.eq (Term.field t "java/math/BigInteger" "signum" "I") (Term.int g)).before args s = true) (e3 : (Cond.arrayOf (Term.field t "java/math/BigInteger" "mag" "[I") .int).before args s = true)
    (e4 : (Cond.exactly (Term.field t "java/math/BigInteger" "mag" "[I") "[I").before args s = true) (e5 : (Cond.eq (Term.length (Term.field t "java/math/BigInteger" "mag" "[I")) (Term.int (1 : Int32))).before args s = true)
    (e6 : (Cond.eq (Term.elem (Term.field t "java/math/BigInteger" "mag" "[I") (Term.int (0 : Int32))) (Term.int j)).before args s = true) (hj : ¬ j = 0) (hs : (g = 1 ∧ v = UI j) ∨ (g = -1 ∧ v = - (UI j : Int))) : BI s s.heap a v := by
  obtain ⟨m, em⟩ := arr_v (Cond.before_iff.mp e3)
  obtain ⟨c, Ac⟩ := Arr.start em (Cond.before_iff.mp e3)
  obtain ⟨q, l⟩ := own_lenZ em Ac (Cond.before_iff.mp e5)
  have el := own_elV em Ac (by decide) (eqv_i (Term.int_eval j) (Cond.before_iff.mp e6))
  have Av : Arv s s.heap m c.cls .int (1 : Int32) [.int j] (.int (0 : Int32)) := Arv.start hf Ac q l (by decide) rfl ⟨el, trivial⟩
  have F := own_fldV e (eqv_i (Term.int_eval g) (Cond.before_iff.mp e2))
  refine ⟨m, c.cls, Exa.start e (Cond.before_iff.mp e1), own_fldV e em, Exa.start em (Cond.before_iff.mp e4), Or.inr (Or.inl ⟨j, hj, Av, ?_⟩)⟩
  rcases hs with ⟨rfl, hv⟩ | ⟨rfl, hv⟩
  · exact Or.inl ⟨F, hv⟩
  · exact Or.inr ⟨F, hv⟩
theorem own_biZ (hf : Fit s) {t : Term} {a : Addr} (e : t.eval args s none [] s = some (.ref a)) (e1 : (Cond.exactly t "java/math/BigInteger").before args s = true)
    (e2 : (Cond.eq (Term.field t "java/math/BigInteger" "signum" "I") (Term.int (0 : Int32))).before args s = true) (e3 : (Cond.arrayOf (Term.field t "java/math/BigInteger" "mag" "[I") .int).before args s = true)
    (e4 : (Cond.exactly (Term.field t "java/math/BigInteger" "mag" "[I") "[I").before args s = true) (e5 : (Cond.eq (Term.length (Term.field t "java/math/BigInteger" "mag" "[I")) (Term.int (0 : Int32))).before args s = true) : BI s s.heap a 0 := by
  obtain ⟨m, em⟩ := arr_v (Cond.before_iff.mp e3)
  obtain ⟨c, Ac⟩ := Arr.start em (Cond.before_iff.mp e3)
  obtain ⟨q, l⟩ := own_lenZ em Ac (Cond.before_iff.mp e5)
  have Av : Arv s s.heap m c.cls .int (0 : Int32) [] (.int (0 : Int32)) := Arv.start hf Ac q l (by decide) rfl trivial
  exact ⟨m, c.cls, Exa.start e (Cond.before_iff.mp e1), own_fldV e em, Exa.start em (Cond.before_iff.mp e4), Or.inl ⟨own_fldV e (eqv_i (Term.int_eval _) (Cond.before_iff.mp e2)), Av, rfl⟩⟩
theorem own_biEl (hf : Fit s) {t : Term} {b : Addr} {c : Cell} {ty : FieldType} {j g : Int32} {n : Nat} {v : Int} (et : t.eval args s none [] s = some (.ref b)) (A : Arr s s.heap b c ty) (hj : ¬ j < 0) (hn : j.toNatClampNeg = n) (e1 : (Cond.exactly (Term.elem t (Term.int j)) "java/math/BigInteger").before args s = true)
    (e2 : (Cond.eq (Term.field (Term.elem t (Term.int j)) "java/math/BigInteger" "signum" "I") (Term.int g)).before args s = true) (e3 : (Cond.arrayOf (Term.field (Term.elem t (Term.int j)) "java/math/BigInteger" "mag" "[I") .int).before args s = true)
    (e4 : (Cond.exactly (Term.field (Term.elem t (Term.int j)) "java/math/BigInteger" "mag" "[I") "[I").before args s = true) (e5 : (Cond.eq (Term.length (Term.field (Term.elem t (Term.int j)) "java/math/BigInteger" "mag" "[I")) (Term.int (1 : Int32))).before args s = true)
    (e6 : (Cond.eq (Term.elem (Term.field (Term.elem t (Term.int j)) "java/math/BigInteger" "mag" "[I") (Term.int (0 : Int32))) (Term.int j)).before args s = true) (hj0 : ¬ j = 0) (hs : (g = 1 ∧ v = UI j) ∨ (g = -1 ∧ v = - (UI j : Int))) : ∃ a, c.slots.toList.getD n .null = .ref a ∧ BI s s.heap a v := by
  obtain ⟨a, ea⟩ := exa_v (Cond.before_iff.mp e1)
  refine ⟨a, ?_, own_biW hf ea e1 e2 e3 e4 e5 e6 hj0 hs⟩
  have q := own_elV et A hj ea
  rw [hn] at q
  rw [List.getD_eq_getElem?_getD, Array.getElem?_toList, q]; rfl
end OwnStart
abbrev Nm0 : MethodName := ⟨"java/lang/Integer", "numberOfTrailingZeros", "(I)I"⟩
abbrev Nm1 : MethodName := ⟨"java/lang/Integer", "numberOfLeadingZeros", "(I)I"⟩
abbrev Nm2 : MethodName := ⟨"java/math/BigInteger", "bitLengthForInt", "(I)I"⟩
abbrev Nm3 : MethodName := ⟨"java/math/MutableBigInteger", "getLowestSetBit", "()I"⟩
abbrev Nm4 : MethodName := ⟨"java/math/MutableBigInteger", "primitiveRightShift", "(I)V"⟩
abbrev Nm5 : MethodName := ⟨"java/math/MutableBigInteger", "primitiveLeftShift", "(I)V"⟩
abbrev Nm6 : MethodName := ⟨"java/math/MutableBigInteger", "normalize", "()V"⟩
abbrev Nm7 : MethodName := ⟨"java/math/MutableBigInteger", "compare", "(Ljava/math/MutableBigInteger;)I"⟩
abbrev Nm8 : MethodName := ⟨"java/math/MutableBigInteger", "difference", "(Ljava/math/MutableBigInteger;)I"⟩
abbrev Nm9 : MethodName := ⟨"java/math/MutableBigInteger", "rightShift", "(I)V"⟩
abbrev Nm10 : MethodName := ⟨"java/math/MutableBigInteger", "binaryGcd", "(II)I"⟩
abbrev Nm11 : MethodName := ⟨"java/math/MutableBigInteger", "<init>", "()V"⟩
abbrev Nm12 : MethodName := ⟨"java/math/MutableBigInteger", "binaryGCD", "(Ljava/math/MutableBigInteger;)Ljava/math/MutableBigInteger;"⟩
abbrev Nm13 : MethodName := ⟨"java/lang/Math", "abs", "(I)I"⟩
abbrev Nm14 : MethodName := ⟨"java/math/MutableBigInteger", "hybridGCD", "(Ljava/math/MutableBigInteger;)Ljava/math/MutableBigInteger;"⟩
abbrev Nm15 : MethodName := ⟨"java/util/Arrays", "copyOf", "([II)[I"⟩
abbrev Nm16 : MethodName := ⟨"java/math/MutableBigInteger", "<init>", "(Ljava/math/BigInteger;)V"⟩
abbrev Nm17 : MethodName := ⟨"java/lang/Number", "<init>", "()V"⟩
abbrev Nm18 : MethodName := ⟨"java/math/MutableBigInteger", "<init>", "([I)V"⟩
abbrev Nm19 : MethodName := ⟨"java/math/BigInteger", "<init>", "([II)V"⟩
abbrev Nm20 : MethodName := ⟨"java/math/MutableBigInteger", "getMagnitudeArray", "()[I"⟩
abbrev Nm21 : MethodName := ⟨"java/math/MutableBigInteger", "toBigInteger", "(I)Ljava/math/BigInteger;"⟩
abbrev Nm22 : MethodName := ⟨"java/math/BigInteger", "abs", "()Ljava/math/BigInteger;"⟩
abbrev Nm23 : MethodName := ⟨"java/math/BigInteger", "gcd", "(Ljava/math/BigInteger;)Ljava/math/BigInteger;"⟩
abbrev Nm24 : MethodName := ⟨"java/math/MutableBigInteger", "clear", "()V"⟩
abbrev Nm25 : MethodName := ⟨"java/math/MutableBigInteger", "divideOneWord", "(ILjava/math/MutableBigInteger;)I"⟩
abbrev Nm26 : MethodName := ⟨"java/math/MutableBigInteger", "divideKnuth", "(Ljava/math/MutableBigInteger;Ljava/math/MutableBigInteger;Z)Ljava/math/MutableBigInteger;"⟩
abbrev Nm27 : MethodName := ⟨"java/math/BigInteger", "divideKnuth", "(Ljava/math/BigInteger;)Ljava/math/BigInteger;"⟩
abbrev Nm28 : MethodName := ⟨"java/math/BigInteger", "divide", "(Ljava/math/BigInteger;)Ljava/math/BigInteger;"⟩
abbrev Nm29 : MethodName := ⟨"java/math/BigInteger", "<init>", "(J)V"⟩
abbrev Nm30 : MethodName := ⟨"java/math/BigInteger", "valueOf", "(J)Ljava/math/BigInteger;"⟩
abbrev Nm31 : MethodName := ⟨"com/example/curves_to_bounds/curvestobounds/curve/Rational", "<init>", "(Ljava/math/BigInteger;Ljava/math/BigInteger;)V"⟩
abbrev Nm32 : MethodName := ⟨"com/example/curves_to_bounds/curvestobounds/curve/Rational", "valueOf", "(J)Lcom/example/curves_to_bounds/curvestobounds/curve/Rational;"⟩
abbrev Nm33 : MethodName := ⟨"java/util/Objects", "requireNonNull", "(Ljava/lang/Object;Ljava/lang/String;)Ljava/lang/Object;"⟩
abbrev Nm34 : MethodName := ⟨"java/math/BigInteger", "signum", "()I"⟩
abbrev Nm35 : MethodName := ⟨"com/example/curves_to_bounds/curvestobounds/curve/Rational", "valueOf", "(Ljava/math/BigInteger;Ljava/math/BigInteger;)Lcom/example/curves_to_bounds/curvestobounds/curve/Rational;"⟩
abbrev Nm36 : MethodName := ⟨"java/lang/Integer", "bitCount", "(I)I"⟩
abbrev Nm37 : MethodName := ⟨"java/math/BigInteger", "shiftLeft", "([II)[I"⟩
abbrev Nm38 : MethodName := ⟨"java/math/BigInteger", "multiplyByInt", "([III)Ljava/math/BigInteger;"⟩
abbrev Nm39 : MethodName := ⟨"java/math/BigInteger", "multiply", "(Ljava/math/BigInteger;ZZI)Ljava/math/BigInteger;"⟩
abbrev Nm40 : MethodName := ⟨"java/math/BigInteger", "multiply", "(Ljava/math/BigInteger;)Ljava/math/BigInteger;"⟩
abbrev Nm41 : MethodName := ⟨"java/math/BigInteger", "compareMagnitude", "(Ljava/math/BigInteger;)I"⟩
abbrev Nm42 : MethodName := ⟨"java/math/BigInteger", "compareTo", "(Ljava/math/BigInteger;)I"⟩
abbrev Nm43 : MethodName := ⟨"com/example/curves_to_bounds/curvestobounds/curve/Rational", "compareTo", "(Lcom/example/curves_to_bounds/curvestobounds/curve/Rational;)I"⟩
abbrev Nm44 : MethodName := ⟨"jdk/internal/util/Preconditions", "checkFromToIndex", "(IIILjava/util/function/BiFunction;)I"⟩
abbrev Nm45 : MethodName := ⟨"java/util/Objects", "checkFromToIndex", "(III)I"⟩
abbrev Nm46 : MethodName := ⟨"java/math/BigInteger", "shiftLeftImplWorker", "([I[IIII)V"⟩
abbrev Nm47 : MethodName := ⟨"java/util/Arrays", "checkLength", "(II)V"⟩
abbrev Nm48 : MethodName := ⟨"java/lang/Math", "min", "(II)I"⟩
abbrev Nm49 : MethodName := ⟨"java/util/Arrays", "copyOfRangeInt", "([III)[I"⟩
abbrev Nm50 : MethodName := ⟨"java/util/Arrays", "copyOfRange", "([III)[I"⟩
abbrev Nm51 : MethodName := ⟨"com/example/curves_to_bounds/curvestobounds/curve/Rational", "multiply", "(Lcom/example/curves_to_bounds/curvestobounds/curve/Rational;)Lcom/example/curves_to_bounds/curvestobounds/curve/Rational;"⟩
abbrev Nm52 : MethodName := ⟨"com/example/curves_to_bounds/curvestobounds/curve/Curve", "tooManyPairs", "(Lcom/example/curves_to_bounds/curvestobounds/curve/Rational;Lcom/example/curves_to_bounds/curvestobounds/curve/Rational;)Z"⟩
abbrev Nm53 : MethodName := ⟨"com/example/curves_to_bounds/curvestobounds/curve/Curve", "requirePairs", "(II)V"⟩
theorem D_0 {c : Code} (h : c.code = jdk_33_method_48_code) : Ds c [(0, .iload_n 0, 1), (1, .iconst (-1), 1), (2, .ixor, 1), (3, .iload_n 0, 1), (4, .iconst 1, 1), (5, .isub, 1), (6, .iand, 1), (7, .istore_n 0, 1), (8, .iload_n 0, 1), (9, .ifCond .gt 8, 3), (12, .iload_n 0, 1), (13, .bipush 32, 2), (15, .iand, 1), (16, .ireturn, 1), (17, .iconst 1, 1), (18, .istore_n 1, 1), (19, .iload_n 0, 1), (20, .ldc_w 264, 3), (23, .if_icmp .le 11, 3), (26, .iinc 1 16, 3), (29, .iload_n 0, 1), (30, .bipush 16, 2), (32, .iushr, 1), (33, .istore_n 0, 1), (34, .iload_n 0, 1), (35, .sipush 256, 3), (38, .if_icmp .le 11, 3), (41, .iinc 1 8, 3), (44, .iload_n 0, 1), (45, .bipush 8, 2), (47, .iushr, 1), (48, .istore_n 0, 1), (49, .iload_n 0, 1), (50, .bipush 16, 2), (52, .if_icmp .le 10, 3), (55, .iinc 1 4, 3), (58, .iload_n 0, 1), (59, .iconst 4, 1), (60, .iushr, 1), (61, .istore_n 0, 1), (62, .iload_n 0, 1), (63, .iconst 4, 1), (64, .if_icmp .le 10, 3), (67, .iinc 1 2, 3), (70, .iload_n 0, 1), (71, .iconst 2, 1), (72, .iushr, 1), (73, .istore_n 0, 1), (74, .iload_n 1, 1), (75, .iload_n 0, 1), (76, .iconst 1, 1), (77, .iushr, 1), (78, .iadd, 1), (79, .ireturn, 1)] := Ds.of h _ (by decide +kernel)
theorem D_1 {c : Code} (h : c.code = jdk_33_method_47_code) : Ds c [(0, .iload_n 0, 1), (1, .ifCond .gt 14, 3), (4, .iload_n 0, 1), (5, .ifCond .ne 8, 3), (13, .iconst 0, 1), (14, .ireturn, 1), (15, .bipush 31, 2), (17, .istore_n 1, 1), (18, .iload_n 0, 1), (19, .ldc_w 264, 3), (22, .if_icmp .lt 11, 3), (25, .iinc 1 (-16), 3), (28, .iload_n 0, 1), (29, .bipush 16, 2), (31, .iushr, 1), (32, .istore_n 0, 1), (33, .iload_n 0, 1), (34, .sipush 256, 3), (37, .if_icmp .lt 11, 3), (40, .iinc 1 (-8), 3), (43, .iload_n 0, 1), (44, .bipush 8, 2), (46, .iushr, 1), (47, .istore_n 0, 1), (48, .iload_n 0, 1), (49, .bipush 16, 2), (51, .if_icmp .lt 10, 3), (54, .iinc 1 (-4), 3), (57, .iload_n 0, 1), (58, .iconst 4, 1), (59, .iushr, 1), (60, .istore_n 0, 1), (61, .iload_n 0, 1), (62, .iconst 4, 1), (63, .if_icmp .lt 10, 3), (66, .iinc 1 (-2), 3), (69, .iload_n 0, 1), (70, .iconst 2, 1), (71, .iushr, 1), (72, .istore_n 0, 1), (73, .iload_n 1, 1), (74, .iload_n 0, 1), (75, .iconst 1, 1), (76, .iushr, 1), (77, .isub, 1), (78, .ireturn, 1)] := Ds.of h _ (by decide +kernel)
theorem D_2 {c : Code} (h : c.code = jdk_2097_method_74_code) : Ds c [(0, .bipush 32, 2), (2, .iload_n 0, 1), (3, .invokestatic 602, 3), (6, .isub, 1), (7, .ireturn, 1)] := Ds.of h _ (by decide +kernel)
theorem D_3 {c : Code} (h : c.code = jdk_2101_method_18_code) : Ds c [(0, .aload_n 0, 1), (1, .getfield 21, 3), (4, .ifCond .ne 5, 3), (9, .aload_n 0, 1), (10, .getfield 21, 3), (13, .iconst 1, 1), (14, .isub, 1), (15, .istore_n 1, 1), (16, .iload_n 1, 1), (17, .ifCond .le 23, 3), (20, .aload_n 0, 1), (21, .getfield 17, 3), (24, .iload_n 1, 1), (25, .aload_n 0, 1), (26, .getfield 11, 3), (29, .iadd, 1), (30, .iaload, 1), (31, .ifCond .ne 9, 3), (34, .iinc 1 (-1), 3), (37, .goto (-21), 3), (40, .aload_n 0, 1), (41, .getfield 17, 3), (44, .iload_n 1, 1), (45, .aload_n 0, 1), (46, .getfield 11, 3), (49, .iadd, 1), (50, .iaload, 1), (51, .istore_n 2, 1), (52, .iload_n 2, 1), (53, .ifCond .ne 5, 3), (58, .aload_n 0, 1), (59, .getfield 21, 3), (62, .iconst 1, 1), (63, .isub, 1), (64, .iload_n 1, 1), (65, .isub, 1), (66, .iconst 5, 1), (67, .ishl, 1), (68, .iload_n 2, 1), (69, .invokestatic 89, 3), (72, .iadd, 1), (73, .ireturn, 1)] := Ds.of h _ (by decide +kernel)
theorem D_4 {c : Code} (h : c.code = jdk_2101_method_41_code) : Ds c [(0, .aload_n 0, 1), (1, .getfield 17, 3), (4, .astore_n 2, 1), (5, .bipush 32, 2), (7, .iload_n 1, 1), (8, .isub, 1), (9, .istore_n 3, 1), (10, .aload_n 0, 1), (11, .getfield 11, 3), (14, .aload_n 0, 1), (15, .getfield 21, 3), (18, .iadd, 1), (19, .iconst 1, 1), (20, .isub, 1), (21, .istore 4, 2), (23, .aload_n 2, 1), (24, .iload 4, 2), (26, .iaload, 1), (27, .istore 5, 2), (29, .iload 4, 2), (31, .aload_n 0, 1), (32, .getfield 11, 3), (35, .if_icmp .le 34, 3), (38, .iload 5, 2), (40, .istore 6, 2), (42, .aload_n 2, 1), (43, .iload 4, 2), (45, .iconst 1, 1), (46, .isub, 1), (47, .iaload, 1), (48, .istore 5, 2), (50, .aload_n 2, 1), (51, .iload 4, 2), (53, .iload 5, 2), (55, .iload_n 3, 1), (56, .ishl, 1), (57, .iload 6, 2), (59, .iload_n 1, 1), (60, .iushr, 1), (61, .ior, 1), (62, .iastore, 1), (63, .iinc 4 (-1), 3), (66, .goto (-37), 3), (69, .aload_n 2, 1), (70, .aload_n 0, 1), (71, .getfield 11, 3), (74, .dup2, 1), (75, .iaload, 1), (76, .iload_n 1, 1), (77, .iushr, 1), (78, .iastore, 1), (79, .return_, 1)] := Ds.of h _ (by decide +kernel)
theorem D_5 {c : Code} (h : c.code = jdk_2101_method_42_code) : Ds c [(0, .aload_n 0, 1), (1, .getfield 17, 3), (4, .astore_n 2, 1), (5, .bipush 32, 2), (7, .iload_n 1, 1), (8, .isub, 1), (9, .istore_n 3, 1), (10, .aload_n 0, 1), (11, .getfield 11, 3), (14, .istore 4, 2), (16, .aload_n 2, 1), (17, .iload 4, 2), (19, .iaload, 1), (20, .istore 5, 2), (22, .iload 4, 2), (24, .aload_n 0, 1), (25, .getfield 21, 3), (28, .iadd, 1), (29, .iconst 1, 1), (30, .isub, 1), (31, .istore 6, 2), (33, .iload 4, 2), (35, .iload 6, 2), (37, .if_icmp .ge 34, 3), (40, .iload 5, 2), (42, .istore 7, 2), (44, .aload_n 2, 1), (45, .iload 4, 2), (47, .iconst 1, 1), (48, .iadd, 1), (49, .iaload, 1), (50, .istore 5, 2), (52, .aload_n 2, 1), (53, .iload 4, 2), (55, .iload 7, 2), (57, .iload_n 1, 1), (58, .ishl, 1), (59, .iload 5, 2), (61, .iload_n 3, 1), (62, .iushr, 1), (63, .ior, 1), (64, .iastore, 1), (65, .iinc 4 1, 3), (68, .goto (-35), 3), (71, .aload_n 2, 1), (72, .aload_n 0, 1), (73, .getfield 11, 3), (76, .aload_n 0, 1), (77, .getfield 21, 3), (80, .iadd, 1), (81, .iconst 1, 1), (82, .isub, 1), (83, .dup2, 1), (84, .iaload, 1), (85, .iload_n 1, 1), (86, .ishl, 1), (87, .iastore, 1), (88, .return_, 1)] := Ds.of h _ (by decide +kernel)
theorem D_6 {c : Code} (h : c.code = jdk_2101_method_21_code) : Ds c [(0, .aload_n 0, 1), (1, .getfield 21, 3), (4, .ifCond .ne 9, 3), (13, .aload_n 0, 1), (14, .getfield 11, 3), (17, .istore_n 1, 1), (18, .aload_n 0, 1), (19, .getfield 17, 3), (22, .iload_n 1, 1), (23, .iaload, 1), (24, .ifCond .eq 4, 3), (27, .return_, 1)] := Ds.of h _ (by decide +kernel)
theorem D_7 {c : Code} (h : c.code = jdk_2101_method_15_code) : Ds c [(0, .aload_n 1, 1), (1, .getfield 21, 3), (4, .istore_n 2, 1), (5, .aload_n 0, 1), (6, .getfield 21, 3), (9, .iload_n 2, 1), (10, .if_icmp .ge 5, 3), (15, .aload_n 0, 1), (16, .getfield 21, 3), (19, .iload_n 2, 1), (20, .if_icmp .le 5, 3), (23, .iconst 1, 1), (24, .ireturn, 1), (25, .aload_n 1, 1), (26, .getfield 17, 3), (29, .astore_n 3, 1), (30, .aload_n 0, 1), (31, .getfield 11, 3), (34, .istore 4, 2), (36, .aload_n 1, 1), (37, .getfield 11, 3), (40, .istore 5, 2), (42, .iload 4, 2), (44, .aload_n 0, 1), (45, .getfield 21, 3), (48, .aload_n 0, 1), (49, .getfield 11, 3), (52, .iadd, 1), (53, .if_icmp .ge 51, 3), (56, .aload_n 0, 1), (57, .getfield 17, 3), (60, .iload 4, 2), (62, .iaload, 1), (63, .ldc 88, 2), (65, .iadd, 1), (66, .istore 6, 2), (68, .aload_n 3, 1), (69, .iload 5, 2), (71, .iaload, 1), (72, .ldc 88, 2), (74, .iadd, 1), (75, .istore 7, 2), (77, .iload 6, 2), (79, .iload 7, 2), (81, .if_icmp .ge 5, 3), (86, .iload 6, 2), (88, .iload 7, 2), (90, .if_icmp .le 5, 3), (93, .iconst 1, 1), (94, .ireturn, 1), (95, .iinc 4 1, 3), (98, .iinc 5 1, 3), (101, .goto (-59), 3), (104, .iconst 0, 1), (105, .ireturn, 1)] := Ds.of h _ (by decide +kernel)
theorem D_8 {c : Code} (h : c.code = jdk_2101_method_50_code) : Ds c [(0, .aload_n 0, 1), (1, .astore_n 2, 1), (2, .aload_n 2, 1), (3, .aload_n 1, 1), (4, .invokevirtual 142, 3), (7, .istore_n 3, 1), (8, .iload_n 3, 1), (9, .ifCond .ne 5, 3), (14, .iload_n 3, 1), (15, .ifCond .ge 11, 3), (26, .lconst 0, 1), (27, .lstore 4, 2), (29, .aload_n 2, 1), (30, .getfield 21, 3), (33, .istore 6, 2), (35, .aload_n 1, 1), (36, .getfield 21, 3), (39, .istore 7, 2), (41, .iload 7, 2), (43, .ifCond .le 70, 3), (46, .iinc 6 (-1), 3), (49, .iinc 7 (-1), 3), (52, .aload_n 2, 1), (53, .getfield 17, 3), (56, .aload_n 2, 1), (57, .getfield 11, 3), (60, .iload 6, 2), (62, .iadd, 1), (63, .iaload, 1), (64, .i2l, 1), (65, .ldc2_w 52, 3), (68, .land, 1), (69, .aload_n 1, 1), (70, .getfield 17, 3), (73, .aload_n 1, 1), (74, .getfield 11, 3), (77, .iload 7, 2), (79, .iadd, 1), (80, .iaload, 1), (81, .i2l, 1), (82, .ldc2_w 52, 3), (85, .land, 1), (86, .lsub, 1), (87, .lload 4, 2), (89, .bipush 32, 2), (91, .lshr, 1), (92, .ladd, 1), (93, .lstore 4, 2), (95, .aload_n 2, 1), (96, .getfield 17, 3), (99, .aload_n 2, 1), (100, .getfield 11, 3), (103, .iload 6, 2), (105, .iadd, 1), (106, .lload 4, 2), (108, .l2i, 1), (109, .iastore, 1), (110, .goto (-69), 3), (113, .lload 4, 2), (115, .lconst 0, 1), (116, .lcmp, 1), (117, .ifCond .ge 54, 3), (171, .aload_n 2, 1), (172, .invokevirtual 64, 3), (175, .iload_n 3, 1), (176, .ireturn, 1)] := Ds.of h _ (by decide +kernel)
theorem D_9 {c : Code} (h : c.code = jdk_2101_method_35_code) : Ds c [(0, .aload_n 0, 1), (1, .getfield 21, 3), (4, .ifCond .ne 4, 3), (8, .iload_n 1, 1), (9, .iconst 5, 1), (10, .iushr, 1), (11, .istore_n 2, 1), (12, .iload_n 1, 1), (13, .bipush 31, 2), (15, .iand, 1), (16, .istore_n 3, 1), (17, .aload_n 0, 1), (18, .dup, 1), (19, .getfield 21, 3), (22, .iload_n 2, 1), (23, .isub, 1), (24, .putfield 21, 3), (27, .iload_n 3, 1), (28, .ifCond .ne 4, 3), (31, .return_, 1), (32, .aload_n 0, 1), (33, .getfield 17, 3), (36, .aload_n 0, 1), (37, .getfield 11, 3), (40, .iaload, 1), (41, .invokestatic 112, 3), (44, .istore 4, 2), (46, .iload_n 3, 1), (47, .iload 4, 2), (49, .if_icmp .lt 24, 3), (52, .aload_n 0, 1), (53, .bipush 32, 2), (55, .iload_n 3, 1), (56, .isub, 1), (57, .invokevirtual 115, 3), (60, .aload_n 0, 1), (61, .dup, 1), (62, .getfield 21, 3), (65, .iconst 1, 1), (66, .isub, 1), (67, .putfield 21, 3), (70, .goto 8, 3), (73, .aload_n 0, 1), (74, .iload_n 3, 1), (75, .invokevirtual 118, 3), (78, .return_, 1)] := Ds.of h _ (by decide +kernel)
theorem D_10 {c : Code} (h : c.code = jdk_2101_method_74_code) : Ds c [(0, .iload_n 1, 1), (1, .ifCond .ne 5, 3), (6, .iload_n 0, 1), (7, .ifCond .ne 5, 3), (12, .iload_n 0, 1), (13, .invokestatic 89, 3), (16, .istore_n 2, 1), (17, .iload_n 1, 1), (18, .invokestatic 89, 3), (21, .istore_n 3, 1), (22, .iload_n 0, 1), (23, .iload_n 2, 1), (24, .iushr, 1), (25, .istore_n 0, 1), (26, .iload_n 1, 1), (27, .iload_n 3, 1), (28, .iushr, 1), (29, .istore_n 1, 1), (30, .iload_n 2, 1), (31, .iload_n 3, 1), (32, .if_icmp .ge 7, 3), (39, .iload_n 3, 1), (40, .istore 4, 2), (42, .iload_n 0, 1), (43, .iload_n 1, 1), (44, .if_icmp .eq 42, 3), (47, .iload_n 0, 1), (48, .ldc 88, 2), (50, .iadd, 1), (51, .iload_n 1, 1), (52, .ldc 88, 2), (54, .iadd, 1), (55, .if_icmp .le 17, 3), (58, .iload_n 0, 1), (59, .iload_n 1, 1), (60, .isub, 1), (61, .istore_n 0, 1), (62, .iload_n 0, 1), (63, .iload_n 0, 1), (64, .invokestatic 89, 3), (67, .iushr, 1), (68, .istore_n 0, 1), (69, .goto (-27), 3), (86, .iload_n 0, 1), (87, .iload 4, 2), (89, .ishl, 1), (90, .ireturn, 1)] := Ds.of h _ (by decide +kernel)
theorem D_11 {c : Code} (h : c.code = jdk_2101_method_1_code) : Ds c [(0, .aload_n 0, 1), (1, .invokespecial 5, 3), (4, .aload_n 0, 1), (5, .iconst 0, 1), (6, .putfield 11, 3), (9, .aload_n 0, 1), (10, .iconst 1, 1), (11, .newarray .int, 2), (13, .putfield 17, 3), (16, .aload_n 0, 1), (17, .iconst 0, 1), (18, .putfield 21, 3), (21, .return_, 1)] := Ds.of h _ (by decide +kernel)
theorem D_12 {c : Code} (h : c.code = jdk_2101_method_73_code) : Ds c [(0, .aload_n 0, 1), (1, .astore_n 2, 1), (2, .new 12, 3), (5, .dup, 1), (6, .invokespecial 177, 3), (9, .astore_n 3, 1), (10, .aload_n 2, 1), (11, .invokevirtual 184, 3), (14, .istore 4, 2), (16, .aload_n 1, 1), (17, .invokevirtual 184, 3), (20, .istore 5, 2), (22, .iload 4, 2), (24, .iload 5, 2), (26, .if_icmp .ge 8, 3), (34, .iload 5, 2), (36, .istore 6, 2), (38, .iload 6, 2), (40, .ifCond .eq 15, 3), (55, .iload 6, 2), (57, .iload 4, 2), (59, .if_icmp .ne 7, 3), (62, .iconst 1, 1), (63, .goto 4, 3), (66, .iconst 0, 1), (67, .istore 7, 2), (69, .iload 7, 2), (71, .ifCond .eq 7, 3), (74, .aload_n 1, 1), (75, .goto 4, 3), (78, .aload_n 2, 1), (79, .astore 8, 2), (81, .iload 7, 2), (83, .ifCond .eq 7, 3), (86, .iconst (-1), 1), (87, .goto 4, 3), (90, .iconst 1, 1), (91, .istore 9, 2), (93, .aload 8, 2), (95, .invokevirtual 184, 3), (98, .dup, 1), (99, .istore 10, 2), (101, .ifCond .lt 131, 3), (104, .aload 8, 2), (106, .iload 10, 2), (108, .invokevirtual 108, 3), (111, .iload 9, 2), (113, .ifCond .le 9, 3), (116, .aload 8, 2), (118, .astore_n 2, 1), (119, .goto 6, 3), (122, .aload 8, 2), (124, .astore_n 1, 1), (125, .aload_n 2, 1), (126, .getfield 21, 3), (129, .iconst 2, 1), (130, .if_icmp .ge 73, 3), (133, .aload_n 1, 1), (134, .getfield 21, 3), (137, .iconst 2, 1), (138, .if_icmp .ge 65, 3), (141, .aload_n 2, 1), (142, .getfield 17, 3), (145, .aload_n 2, 1), (146, .getfield 11, 3), (149, .iaload, 1), (150, .istore 11, 2), (152, .aload_n 1, 1), (153, .getfield 17, 3), (156, .aload_n 1, 1), (157, .getfield 11, 3), (160, .iaload, 1), (161, .istore 12, 2), (163, .iload 11, 2), (165, .iload 12, 2), (167, .invokestatic 338, 3), (170, .istore 11, 2), (172, .aload_n 3, 1), (173, .getfield 17, 3), (176, .iconst 0, 1), (177, .iload 11, 2), (179, .iastore, 1), (180, .aload_n 3, 1), (181, .iconst 1, 1), (182, .putfield 21, 3), (185, .aload_n 3, 1), (186, .iconst 0, 1), (187, .putfield 11, 3), (190, .iload 6, 2), (192, .ifCond .le 9, 3), (201, .aload_n 3, 1), (202, .areturn, 1), (203, .aload_n 2, 1), (204, .aload_n 1, 1), (205, .invokevirtual 341, 3), (208, .dup, 1), (209, .istore 9, 2), (211, .ifCond .ne 6, 3), (217, .iload 9, 2), (219, .ifCond .lt 7, 3), (222, .aload_n 2, 1), (223, .goto 4, 3), (227, .astore 8, 2), (229, .goto (-136), 3)] := Ds.of h _ (by decide +kernel)
theorem D_13 {c : Code} (h : c.code = jdk_29_method_59_code) : Ds c [(0, .iload_n 0, 1), (1, .ifCond .ge 8, 3), (9, .iload_n 0, 1), (10, .ireturn, 1)] := Ds.of h _ (by decide +kernel)
theorem D_14 {c : Code} (h : c.code = jdk_2101_method_72_code) : Ds c [(0, .aload_n 0, 1), (1, .astore_n 2, 1), (2, .new 12, 3), (5, .dup, 1), (6, .invokespecial 177, 3), (9, .astore_n 3, 1), (10, .aload_n 1, 1), (11, .getfield 21, 3), (14, .ifCond .eq 41, 3), (17, .aload_n 2, 1), (18, .getfield 21, 3), (21, .aload_n 1, 1), (22, .getfield 21, 3), (25, .isub, 1), (26, .invokestatic 329, 3), (29, .iconst 2, 1), (30, .if_icmp .ge 9, 3), (33, .aload_n 2, 1), (34, .aload_n 1, 1), (35, .invokevirtual 332, 3), (38, .areturn, 1)] := Ds.of h _ (by decide +kernel)
theorem D_15 {c : Code} (h : c.code = jdk_65_method_123_code) : Ds c [(0, .iload_n 1, 1), (1, .aload_n 0, 1), (2, .arraylength, 1), (3, .if_icmp .ne 11, 3), (6, .aload_n 0, 1), (7, .invokevirtual 316, 3), (10, .checkcast 317, 3), (13, .areturn, 1)] := Ds.of h _ (by decide +kernel)
theorem D_16 {c : Code} (h : c.code = jdk_2101_method_4_code) : Ds c [(0, .aload_n 0, 1), (1, .invokespecial 5, 3), (4, .aload_n 0, 1), (5, .iconst 0, 1), (6, .putfield 11, 3), (9, .aload_n 0, 1), (10, .aload_n 1, 1), (11, .getfield 24, 3), (14, .arraylength, 1), (15, .putfield 21, 3), (18, .aload_n 0, 1), (19, .aload_n 1, 1), (20, .getfield 24, 3), (23, .aload_n 0, 1), (24, .getfield 21, 3), (27, .invokestatic 27, 3), (30, .putfield 17, 3), (33, .return_, 1)] := Ds.of h _ (by decide +kernel)
theorem D_17 {c : Code} (h : c.code = jdk_18_method_1_code) : Ds c [(0, .aload_n 0, 1), (1, .invokespecial 1, 3), (4, .return_, 1)] := Ds.of h _ (by decide +kernel)
theorem D_18 {c : Code} (h : c.code = jdk_2101_method_3_code) : Ds c [(0, .aload_n 0, 1), (1, .invokespecial 5, 3), (4, .aload_n 0, 1), (5, .iconst 0, 1), (6, .putfield 11, 3), (9, .aload_n 0, 1), (10, .aload_n 1, 1), (11, .putfield 17, 3), (14, .aload_n 0, 1), (15, .aload_n 1, 1), (16, .arraylength, 1), (17, .putfield 21, 3), (20, .return_, 1)] := Ds.of h _ (by decide +kernel)
theorem D_19 {c : Code} (h : c.code = jdk_2097_method_25_code) : Ds c [(0, .aload_n 0, 1), (1, .invokespecial 3, 3), (4, .aload_n 0, 1), (5, .aload_n 1, 1), (6, .arraylength, 1), (7, .ifCond .ne 7, 3), (14, .iload_n 2, 1), (15, .putfield 32, 3), (18, .aload_n 0, 1), (19, .aload_n 1, 1), (20, .putfield 28, 3), (23, .aload_n 0, 1), (24, .getfield 28, 3), (27, .arraylength, 1), (28, .ldc 43, 2), (30, .if_icmp .lt 7, 3), (37, .return_, 1)] := Ds.of h _ (by decide +kernel)
theorem D_20 {c : Code} (h : c.code = jdk_2101_method_7_code) : Ds c [(0, .aload_n 0, 1), (1, .getfield 11, 3), (4, .ifCond .gt 15, 3), (7, .aload_n 0, 1), (8, .getfield 17, 3), (11, .arraylength, 1), (12, .aload_n 0, 1), (13, .getfield 21, 3), (16, .if_icmp .eq 48, 3), (64, .aload_n 0, 1), (65, .getfield 17, 3), (68, .areturn, 1)] := Ds.of h _ (by decide +kernel)
theorem D_21 {c : Code} (h : c.code = jdk_2101_method_9_code) : Ds c [(0, .aload_n 0, 1), (1, .getfield 21, 3), (4, .ifCond .eq 7, 3), (7, .iload_n 1, 1), (8, .ifCond .ne 7, 3), (11, .getstatic 54, 3), (14, .areturn, 1), (15, .new 1, 3), (18, .dup, 1), (19, .aload_n 0, 1), (20, .invokevirtual 58, 3), (23, .iload_n 1, 1), (24, .invokespecial 62, 3), (27, .areturn, 1)] := Ds.of h _ (by decide +kernel)
theorem D_22 {c : Code} (h : c.code = jdk_2097_method_79_code) : Ds c [(0, .aload_n 0, 1), (1, .getfield 32, 3), (4, .ifCond .lt 7, 3), (7, .aload_n 0, 1), (8, .goto 7, 3), (15, .areturn, 1)] := Ds.of h _ (by decide +kernel)
theorem D_23 {c : Code} (h : c.code = jdk_2097_method_73_code) : Ds c [(0, .aload_n 1, 1), (1, .getfield 32, 3), (4, .ifCond .ne 8, 3), (12, .aload_n 0, 1), (13, .getfield 32, 3), (16, .ifCond .ne 8, 3), (19, .aload_n 1, 1), (20, .invokevirtual 485, 3), (23, .areturn, 1), (24, .new 541, 3), (27, .dup, 1), (28, .aload_n 0, 1), (29, .invokespecial 567, 3), (32, .astore_n 2, 1), (33, .new 541, 3), (36, .dup, 1), (37, .aload_n 1, 1), (38, .invokespecial 567, 3), (41, .astore_n 3, 1), (42, .aload_n 2, 1), (43, .aload_n 3, 1), (44, .invokevirtual 598, 3), (47, .astore 4, 2), (49, .aload 4, 2), (51, .iconst 1, 1), (52, .invokevirtual 548, 3), (55, .areturn, 1)] := Ds.of h _ (by decide +kernel)
theorem D_24 {c : Code} (h : c.code = jdk_2101_method_13_code) : Ds c [(0, .aload_n 0, 1), (1, .aload_n 0, 1), (2, .iconst 0, 1), (3, .dup_x1, 1), (4, .putfield 21, 3), (7, .putfield 11, 3), (10, .iconst 0, 1), (11, .istore_n 1, 1), (12, .aload_n 0, 1), (13, .getfield 17, 3), (16, .arraylength, 1), (17, .istore_n 2, 1), (18, .iload_n 1, 1), (19, .iload_n 2, 1), (20, .if_icmp .ge 16, 3), (23, .aload_n 0, 1), (24, .getfield 17, 3), (27, .iload_n 1, 1), (28, .iconst 0, 1), (29, .iastore, 1), (30, .iinc 1 1, 3), (33, .goto (-15), 3), (36, .return_, 1)] := Ds.of h _ (by decide +kernel)
theorem D_25 {c : Code} (h : c.code = jdk_2101_method_53_code) : Ds c [(0, .iload_n 1, 1), (1, .i2l, 1), (2, .ldc2_w 52, 3), (5, .land, 1), (6, .lstore_n 3, 1), (7, .aload_n 0, 1), (8, .getfield 21, 3), (11, .iconst 1, 1), (12, .if_icmp .ne 67, 3), (15, .aload_n 0, 1), (16, .getfield 17, 3), (19, .aload_n 0, 1), (20, .getfield 11, 3), (23, .iaload, 1), (24, .i2l, 1), (25, .ldc2_w 52, 3), (28, .land, 1), (29, .lstore 5, 2), (31, .lload 5, 2), (33, .lload_n 3, 1), (34, .ldiv, 1), (35, .l2i, 1), (36, .istore 7, 2), (38, .lload 5, 2), (40, .iload 7, 2), (42, .i2l, 1), (43, .lload_n 3, 1), (44, .lmul, 1), (45, .lsub, 1), (46, .l2i, 1), (47, .istore 8, 2), (49, .aload_n 2, 1), (50, .getfield 17, 3), (53, .iconst 0, 1), (54, .iload 7, 2), (56, .iastore, 1), (57, .aload_n 2, 1), (58, .iload 7, 2), (60, .ifCond .ne 7, 3), (67, .iconst 1, 1), (68, .putfield 21, 3), (71, .aload_n 2, 1), (72, .iconst 0, 1), (73, .putfield 11, 3), (76, .iload 8, 2), (78, .ireturn, 1), (79, .aload_n 2, 1), (80, .getfield 17, 3), (83, .arraylength, 1), (84, .aload_n 0, 1), (85, .getfield 21, 3), (88, .if_icmp .ge 13, 3), (91, .aload_n 2, 1), (92, .aload_n 0, 1), (93, .getfield 21, 3), (96, .newarray .int, 2), (98, .putfield 17, 3), (101, .aload_n 2, 1), (102, .iconst 0, 1), (103, .putfield 11, 3), (106, .aload_n 2, 1), (107, .aload_n 0, 1), (108, .getfield 21, 3), (111, .putfield 21, 3), (114, .iload_n 1, 1), (115, .invokestatic 152, 3), (118, .istore 5, 2), (120, .aload_n 0, 1), (121, .getfield 17, 3), (124, .aload_n 0, 1), (125, .getfield 11, 3), (128, .iaload, 1), (129, .istore 6, 2), (131, .iload 6, 2), (133, .i2l, 1), (134, .ldc2_w 52, 3), (137, .land, 1), (138, .lstore 7, 2), (140, .lload 7, 2), (142, .lload_n 3, 1), (143, .lcmp, 1), (144, .ifCond .ge 13, 3), (157, .aload_n 2, 1), (158, .getfield 17, 3), (161, .iconst 0, 1), (162, .lload 7, 2), (164, .lload_n 3, 1), (165, .ldiv, 1), (166, .l2i, 1), (167, .iastore, 1), (168, .lload 7, 2), (170, .aload_n 2, 1), (171, .getfield 17, 3), (174, .iconst 0, 1), (175, .iaload, 1), (176, .i2l, 1), (177, .lload_n 3, 1), (178, .lmul, 1), (179, .lsub, 1), (180, .l2i, 1), (181, .istore 6, 2), (183, .iload 6, 2), (185, .i2l, 1), (186, .ldc2_w 52, 3), (189, .land, 1), (190, .lstore 7, 2), (192, .aload_n 0, 1), (193, .getfield 21, 3), (196, .istore 9, 2), (198, .iinc 9 (-1), 3), (201, .iload 9, 2), (203, .ifCond .le 112, 3), (206, .lload 7, 2), (208, .bipush 32, 2), (210, .lshl, 1), (211, .aload_n 0, 1), (212, .getfield 17, 3), (215, .aload_n 0, 1), (216, .getfield 11, 3), (219, .aload_n 0, 1), (220, .getfield 21, 3), (223, .iadd, 1), (224, .iload 9, 2), (226, .isub, 1), (227, .iaload, 1), (228, .i2l, 1), (229, .ldc2_w 52, 3), (232, .land, 1), (233, .lor, 1), (234, .lstore 10, 2), (236, .lload 10, 2), (238, .lconst 0, 1), (239, .lcmp, 1), (240, .ifCond .lt 24, 3), (243, .lload 10, 2), (245, .lload_n 3, 1), (246, .ldiv, 1), (247, .l2i, 1), (248, .istore 12, 2), (250, .lload 10, 2), (252, .iload 12, 2), (254, .i2l, 1), (255, .lload_n 3, 1), (256, .lmul, 1), (257, .lsub, 1), (258, .l2i, 1), (259, .istore 6, 2), (261, .goto 28, 3), (289, .aload_n 2, 1), (290, .getfield 17, 3), (293, .aload_n 0, 1), (294, .getfield 21, 3), (297, .iload 9, 2), (299, .isub, 1), (300, .iload 12, 2), (302, .iastore, 1), (303, .iload 6, 2), (305, .i2l, 1), (306, .ldc2_w 52, 3), (309, .land, 1), (310, .lstore 7, 2), (312, .goto (-114), 3), (315, .aload_n 2, 1), (316, .invokevirtual 64, 3), (319, .iload 5, 2), (321, .ifCond .le 8, 3), (324, .iload 6, 2), (326, .iload_n 1, 1), (327, .irem, 1), (328, .ireturn, 1), (329, .iload 6, 2), (331, .ireturn, 1)] := Ds.of h _ (by decide +kernel)
theorem D_26 {c : Code} (h : c.code = jdk_2101_method_57_code) : Ds c [(0, .aload_n 1, 1), (1, .getfield 21, 3), (4, .ifCond .ne 13, 3), (17, .aload_n 0, 1), (18, .getfield 21, 3), (21, .ifCond .ne 29, 3), (24, .aload_n 2, 1), (25, .aload_n 2, 1), (26, .iconst 0, 1), (27, .dup_x1, 1), (28, .putfield 11, 3), (31, .putfield 21, 3), (34, .iload_n 3, 1), (35, .ifCond .eq 13, 3), (48, .aconst_null, 1), (49, .areturn, 1), (50, .aload_n 0, 1), (51, .aload_n 1, 1), (52, .invokevirtual 142, 3), (55, .istore 4, 2), (57, .iload 4, 2), (59, .ifCond .ge 30, 3), (89, .iload 4, 2), (91, .ifCond .ne 36, 3), (94, .aload_n 2, 1), (95, .getfield 17, 3), (98, .iconst 0, 1), (99, .aload_n 2, 1), (100, .iconst 1, 1), (101, .dup_x1, 1), (102, .putfield 21, 3), (105, .iastore, 1), (106, .aload_n 2, 1), (107, .iconst 0, 1), (108, .putfield 11, 3), (111, .iload_n 3, 1), (112, .ifCond .eq 13, 3), (125, .aconst_null, 1), (126, .areturn, 1), (127, .aload_n 2, 1), (128, .invokevirtual 149, 3), (131, .aload_n 1, 1), (132, .getfield 21, 3), (135, .iconst 1, 1), (136, .if_icmp .ne 48, 3), (139, .aload_n 0, 1), (140, .aload_n 1, 1), (141, .getfield 17, 3), (144, .aload_n 1, 1), (145, .getfield 11, 3), (148, .iaload, 1), (149, .aload_n 2, 1), (150, .invokevirtual 178, 3), (153, .istore 5, 2), (155, .iload_n 3, 1), (156, .ifCond .eq 26, 3), (182, .aconst_null, 1), (183, .areturn, 1)] := Ds.of h _ (by decide +kernel)
theorem D_27 {c : Code} (h : c.code = jdk_2097_method_62_code) : Ds c [(0, .new 541, 3), (3, .dup, 1), (4, .invokespecial 543, 3), (7, .astore_n 2, 1), (8, .new 541, 3), (11, .dup, 1), (12, .aload_n 0, 1), (13, .getfield 28, 3), (16, .invokespecial 544, 3), (19, .astore_n 3, 1), (20, .new 541, 3), (23, .dup, 1), (24, .aload_n 1, 1), (25, .getfield 28, 3), (28, .invokespecial 544, 3), (31, .astore 4, 2), (33, .aload_n 3, 1), (34, .aload 4, 2), (36, .aload_n 2, 1), (37, .iconst 0, 1), (38, .invokevirtual 545, 3), (41, .pop, 1), (42, .aload_n 2, 1), (43, .aload_n 0, 1), (44, .getfield 32, 3), (47, .aload_n 1, 1), (48, .getfield 32, 3), (51, .imul, 1), (52, .invokevirtual 548, 3), (55, .areturn, 1)] := Ds.of h _ (by decide +kernel)
theorem D_28 {c : Code} (h : c.code = jdk_2097_method_61_code) : Ds c [(0, .aload_n 1, 1), (1, .getfield 28, 3), (4, .arraylength, 1), (5, .bipush 80, 2), (7, .if_icmp .lt 19, 3), (26, .aload_n 0, 1), (27, .aload_n 1, 1), (28, .invokevirtual 535, 3), (31, .areturn, 1)] := Ds.of h _ (by decide +kernel)
theorem D_29 {c : Code} (h : c.code = jdk_2097_method_30_code) : Ds c [(0, .aload_n 0, 1), (1, .invokespecial 3, 3), (4, .lload_n 1, 1), (5, .lconst 0, 1), (6, .lcmp, 1), (7, .ifCond .ge 14, 3), (10, .lload_n 1, 1), (11, .lneg, 1), (12, .lstore_n 1, 1), (13, .aload_n 0, 1), (14, .iconst (-1), 1), (15, .putfield 32, 3), (18, .goto 8, 3), (21, .aload_n 0, 1), (22, .iconst 1, 1), (23, .putfield 32, 3), (26, .lload_n 1, 1), (27, .bipush 32, 2), (29, .lushr, 1), (30, .l2i, 1), (31, .istore_n 3, 1), (32, .iload_n 3, 1), (33, .ifCond .ne 21, 3), (36, .aload_n 0, 1), (37, .iconst 1, 1), (38, .newarray .int, 2), (40, .putfield 28, 3), (43, .aload_n 0, 1), (44, .getfield 28, 3), (47, .iconst 0, 1), (48, .lload_n 1, 1), (49, .l2i, 1), (50, .iastore, 1), (51, .goto 25, 3), (54, .aload_n 0, 1), (55, .iconst 2, 1), (56, .newarray .int, 2), (58, .putfield 28, 3), (61, .aload_n 0, 1), (62, .getfield 28, 3), (65, .iconst 0, 1), (66, .iload_n 3, 1), (67, .iastore, 1), (68, .aload_n 0, 1), (69, .getfield 28, 3), (72, .iconst 1, 1), (73, .lload_n 1, 1), (74, .l2i, 1), (75, .iastore, 1), (76, .return_, 1)] := Ds.of h _ (by decide +kernel)
theorem D_30 {c : Code} (h : c.code = jdk_2097_method_29_code) : Ds c [(0, .lload_n 0, 1), (1, .lconst 0, 1), (2, .lcmp, 1), (3, .ifCond .ne 7, 3), (6, .getstatic 22, 3), (9, .areturn, 1), (10, .lload_n 0, 1), (11, .lconst 0, 1), (12, .lcmp, 1), (13, .ifCond .le 18, 3), (16, .lload_n 0, 1), (17, .ldc2_w 345, 3), (20, .lcmp, 1), (21, .ifCond .gt 10, 3), (24, .getstatic 347, 3), (27, .lload_n 0, 1), (28, .l2i, 1), (29, .aaload, 1), (30, .areturn, 1), (31, .lload_n 0, 1), (32, .lconst 0, 1), (33, .lcmp, 1), (34, .ifCond .ge 19, 3), (37, .lload_n 0, 1), (38, .ldc2_w 351, 3), (41, .lcmp, 1), (42, .ifCond .lt 11, 3), (45, .getstatic 353, 3), (48, .lload_n 0, 1), (49, .lneg, 1), (50, .l2i, 1), (51, .aaload, 1), (52, .areturn, 1), (53, .new 23, 3), (56, .dup, 1), (57, .lload_n 0, 1), (58, .invokespecial 356, 3), (61, .areturn, 1)] := Ds.of h _ (by decide +kernel)
theorem D_31 {c : Code} (h : c.code = prog_31_method_1_code) : Ds c [(0, .aload_n 0, 1), (1, .invokespecial 1, 3), (4, .aload_n 0, 1), (5, .aload_n 1, 1), (6, .putfield 7, 3), (9, .aload_n 0, 1), (10, .aload_n 2, 1), (11, .putfield 13, 3), (14, .return_, 1)] := Ds.of h _ (by decide +kernel)
theorem D_32 {c : Code} (h : c.code = prog_31_method_2_code) : Ds c [(0, .new 8, 3), (3, .dup, 1), (4, .lload_n 0, 1), (5, .invokestatic 16, 3), (8, .getstatic 22, 3), (11, .invokespecial 25, 3), (14, .areturn, 1)] := Ds.of h _ (by decide +kernel)
theorem D_33 {c : Code} (h : c.code = jdk_31_method_11_code) : Ds c [(0, .aload_n 0, 1), (1, .ifnonnull 12, 3), (13, .aload_n 0, 1), (14, .areturn, 1)] := Ds.of h _ (by decide +kernel)
theorem D_34 {c : Code} (h : c.code = jdk_2097_method_81_code) : Ds c [(0, .aload_n 0, 1), (1, .getfield 32, 3), (4, .ireturn, 1)] := Ds.of h _ (by decide +kernel)
theorem D_35 {c : Code} (h : c.code = prog_31_method_4_code) : Ds c [(0, .aload_n 0, 1), (1, .ldc 31, 2), (3, .invokestatic 32, 3), (6, .pop, 1), (7, .aload_n 1, 1), (8, .ldc 38, 2), (10, .invokestatic 32, 3), (13, .pop, 1), (14, .aload_n 1, 1), (15, .invokevirtual 39, 3), (18, .ifCond .ne 20, 3), (38, .aload_n 0, 1), (39, .aload_n 1, 1), (40, .invokevirtual 57, 3), (43, .astore_n 2, 1), (44, .aload_n 0, 1), (45, .aload_n 2, 1), (46, .invokevirtual 61, 3), (49, .astore_n 3, 1), (50, .aload_n 1, 1), (51, .aload_n 2, 1), (52, .invokevirtual 61, 3), (55, .astore 4, 2), (57, .aload 4, 2), (59, .invokevirtual 39, 3), (62, .ifCond .ge 15, 3), (77, .new 8, 3), (80, .dup, 1), (81, .aload_n 3, 1), (82, .aload 4, 2), (84, .invokespecial 25, 3), (87, .areturn, 1)] := Ds.of h _ (by decide +kernel)
theorem D_36 {c : Code} (h : c.code = jdk_33_method_49_code) : Ds c [(0, .iload_n 0, 1), (1, .iload_n 0, 1), (2, .iconst 1, 1), (3, .iushr, 1), (4, .ldc_w 265, 3), (7, .iand, 1), (8, .isub, 1), (9, .istore_n 0, 1), (10, .iload_n 0, 1), (11, .ldc_w 266, 3), (14, .iand, 1), (15, .iload_n 0, 1), (16, .iconst 2, 1), (17, .iushr, 1), (18, .ldc_w 266, 3), (21, .iand, 1), (22, .iadd, 1), (23, .istore_n 0, 1), (24, .iload_n 0, 1), (25, .iload_n 0, 1), (26, .iconst 4, 1), (27, .iushr, 1), (28, .iadd, 1), (29, .ldc_w 267, 3), (32, .iand, 1), (33, .istore_n 0, 1), (34, .iload_n 0, 1), (35, .iload_n 0, 1), (36, .bipush 8, 2), (38, .iushr, 1), (39, .iadd, 1), (40, .istore_n 0, 1), (41, .iload_n 0, 1), (42, .iload_n 0, 1), (43, .bipush 16, 2), (45, .iushr, 1), (46, .iadd, 1), (47, .istore_n 0, 1), (48, .iload_n 0, 1), (49, .bipush 63, 2), (51, .iand, 1), (52, .ireturn, 1)] := Ds.of h _ (by decide +kernel)
theorem D_37 {c : Code} (h : c.code = jdk_2097_method_102_code) : Ds c [(0, .iload_n 1, 1), (1, .iconst 5, 1), (2, .iushr, 1), (3, .istore_n 2, 1), (4, .iload_n 1, 1), (5, .bipush 31, 2), (7, .iand, 1), (8, .istore_n 3, 1), (9, .aload_n 0, 1), (10, .arraylength, 1), (11, .istore 4, 2), (13, .aconst_null, 1), (14, .astore 5, 2), (16, .iload_n 3, 1), (17, .ifCond .ne 24, 3), (20, .iload 4, 2), (22, .iload_n 2, 1), (23, .iadd, 1), (24, .newarray .int, 2), (26, .astore 5, 2), (28, .aload_n 0, 1), (29, .iconst 0, 1), (30, .aload 5, 2), (32, .iconst 0, 1), (33, .iload 4, 2), (35, .invokestatic 388, 3), (38, .goto 114, 3), (41, .iconst 0, 1), (42, .istore 6, 2), (44, .bipush 32, 2), (46, .iload_n 3, 1), (47, .isub, 1), (48, .istore 7, 2), (50, .aload_n 0, 1), (51, .iconst 0, 1), (52, .iaload, 1), (53, .iload 7, 2), (55, .iushr, 1), (56, .istore 8, 2), (58, .iload 8, 2), (60, .ifCond .eq 26, 3), (63, .iload 4, 2), (65, .iload_n 2, 1), (66, .iadd, 1), (67, .iconst 1, 1), (68, .iadd, 1), (69, .newarray .int, 2), (71, .astore 5, 2), (73, .aload 5, 2), (75, .iload 6, 2), (77, .iinc 6 1, 3), (80, .iload 8, 2), (82, .iastore, 1), (83, .goto 11, 3), (86, .iload 4, 2), (88, .iload_n 2, 1), (89, .iadd, 1), (90, .newarray .int, 2), (92, .astore 5, 2), (94, .iload 4, 2), (96, .iconst 1, 1), (97, .isub, 1), (98, .istore 9, 2), (100, .iconst 0, 1), (101, .iload 9, 2), (103, .iconst 1, 1), (104, .iadd, 1), (105, .aload_n 0, 1), (106, .arraylength, 1), (107, .invokestatic 611, 3), (110, .pop, 1), (111, .iload 6, 2), (113, .iload 9, 2), (115, .iload 6, 2), (117, .iadd, 1), (118, .iconst 1, 1), (119, .iadd, 1), (120, .aload 5, 2), (122, .arraylength, 1), (123, .invokestatic 611, 3), (126, .pop, 1), (127, .aload 5, 2), (129, .aload_n 0, 1), (130, .iload 6, 2), (132, .iload_n 3, 1), (133, .iload 9, 2), (135, .invokestatic 618, 3), (138, .aload 5, 2), (140, .iload 9, 2), (142, .iload 6, 2), (144, .iadd, 1), (145, .aload_n 0, 1), (146, .iload 9, 2), (148, .iaload, 1), (149, .iload_n 3, 1), (150, .ishl, 1), (151, .iastore, 1), (152, .aload 5, 2), (154, .areturn, 1)] := Ds.of h _ (by decide +kernel)
theorem D_38 {c : Code} (h : c.code = jdk_2097_method_43_code) : Ds c [(0, .iload_n 1, 1), (1, .invokestatic 423, 3), (4, .iconst 1, 1), (5, .if_icmp .ne 20, 3), (8, .new 23, 3), (11, .dup, 1), (12, .aload_n 0, 1), (13, .iload_n 1, 1), (14, .invokestatic 426, 3), (17, .invokestatic 429, 3), (20, .iload_n 2, 1), (21, .invokespecial 175, 3), (24, .areturn, 1), (25, .aload_n 0, 1), (26, .arraylength, 1), (27, .istore_n 3, 1), (28, .iload_n 3, 1), (29, .iconst 1, 1), (30, .iadd, 1), (31, .newarray .int, 2), (33, .astore 4, 2), (35, .lconst 0, 1), (36, .lstore 5, 2), (38, .iload_n 1, 1), (39, .i2l, 1), (40, .ldc2_w 130, 3), (43, .land, 1), (44, .lstore 7, 2), (46, .aload 4, 2), (48, .arraylength, 1), (49, .iconst 1, 1), (50, .isub, 1), (51, .istore 9, 2), (53, .iload_n 3, 1), (54, .iconst 1, 1), (55, .isub, 1), (56, .istore 10, 2), (58, .iload 10, 2), (60, .ifCond .lt 44, 3), (63, .aload_n 0, 1), (64, .iload 10, 2), (66, .iaload, 1), (67, .i2l, 1), (68, .ldc2_w 130, 3), (71, .land, 1), (72, .lload 7, 2), (74, .lmul, 1), (75, .lload 5, 2), (77, .ladd, 1), (78, .lstore 11, 2), (80, .aload 4, 2), (82, .iload 9, 2), (84, .iinc 9 (-1), 3), (87, .lload 11, 2), (89, .l2i, 1), (90, .iastore, 1), (91, .lload 11, 2), (93, .bipush 32, 2), (95, .lushr, 1), (96, .lstore 5, 2), (98, .iinc 10 (-1), 3), (101, .goto (-43), 3), (104, .lload 5, 2), (106, .lconst 0, 1), (107, .lcmp, 1), (108, .ifCond .ne 17, 3), (111, .aload 4, 2), (113, .iconst 1, 1), (114, .aload 4, 2), (116, .arraylength, 1), (117, .invokestatic 433, 3), (120, .astore 4, 2), (122, .goto 11, 3), (125, .aload 4, 2), (127, .iload 9, 2), (129, .lload 5, 2), (131, .l2i, 1), (132, .iastore, 1), (133, .new 23, 3), (136, .dup, 1), (137, .aload 4, 2), (139, .iload_n 2, 1), (140, .invokespecial 175, 3), (143, .areturn, 1)] := Ds.of h _ (by decide +kernel)
theorem D_39 {c : Code} (h : c.code = jdk_2097_method_42_code) : Ds c [(0, .aload_n 1, 1), (1, .getfield 32, 3), (4, .ifCond .eq 10, 3), (7, .aload_n 0, 1), (8, .getfield 32, 3), (11, .ifCond .ne 7, 3), (14, .getstatic 22, 3), (17, .areturn, 1), (18, .aload_n 0, 1), (19, .getfield 28, 3), (22, .arraylength, 1), (23, .istore 5, 2), (25, .aload_n 1, 1), (26, .aload_n 0, 1), (27, .if_acmp .ne 19, 3), (30, .iload 5, 2), (32, .bipush 20, 2), (34, .if_icmp .le 12, 3), (46, .aload_n 1, 1), (47, .getfield 28, 3), (50, .arraylength, 1), (51, .istore 6, 2), (53, .iload 5, 2), (55, .bipush 80, 2), (57, .if_icmp .lt 10, 3), (67, .aload_n 0, 1), (68, .getfield 32, 3), (71, .aload_n 1, 1), (72, .getfield 32, 3), (75, .if_icmp .ne 7, 3), (78, .iconst 1, 1), (79, .goto 4, 3), (82, .iconst (-1), 1), (83, .istore 7, 2), (85, .aload_n 1, 1), (86, .getfield 28, 3), (89, .arraylength, 1), (90, .iconst 1, 1), (91, .if_icmp .ne 19, 3), (94, .aload_n 0, 1), (95, .getfield 28, 3), (98, .aload_n 1, 1), (99, .getfield 28, 3), (102, .iconst 0, 1), (103, .iaload, 1), (104, .iload 7, 2), (106, .invokestatic 403, 3), (109, .areturn, 1)] := Ds.of h _ (by decide +kernel)
theorem D_40 {c : Code} (h : c.code = jdk_2097_method_40_code) : Ds c [(0, .aload_n 0, 1), (1, .aload_n 1, 1), (2, .iconst 0, 1), (3, .iconst 0, 1), (4, .iconst 0, 1), (5, .invokevirtual 397, 3), (8, .areturn, 1)] := Ds.of h _ (by decide +kernel)
theorem D_41 {c : Code} (h : c.code = jdk_2097_method_122_code) : Ds c [(0, .aload_n 0, 1), (1, .getfield 28, 3), (4, .astore_n 2, 1), (5, .aload_n 2, 1), (6, .arraylength, 1), (7, .istore_n 3, 1), (8, .aload_n 1, 1), (9, .getfield 28, 3), (12, .astore 4, 2), (14, .aload 4, 2), (16, .arraylength, 1), (17, .istore 5, 2), (19, .iload_n 3, 1), (20, .iload 5, 2), (22, .if_icmp .ge 5, 3), (25, .iconst (-1), 1), (26, .ireturn, 1), (27, .iload_n 3, 1), (28, .iload 5, 2), (30, .if_icmp .le 5, 3), (33, .iconst 1, 1), (34, .ireturn, 1), (35, .iconst 0, 1), (36, .istore 6, 2), (38, .iload 6, 2), (40, .iload_n 3, 1), (41, .if_icmp .ge 53, 3), (44, .aload_n 2, 1), (45, .iload 6, 2), (47, .iaload, 1), (48, .istore 7, 2), (50, .aload 4, 2), (52, .iload 6, 2), (54, .iaload, 1), (55, .istore 8, 2), (57, .iload 7, 2), (59, .iload 8, 2), (61, .if_icmp .eq 27, 3), (64, .iload 7, 2), (66, .i2l, 1), (67, .ldc2_w 130, 3), (70, .land, 1), (71, .iload 8, 2), (73, .i2l, 1), (74, .ldc2_w 130, 3), (77, .land, 1), (78, .lcmp, 1), (79, .ifCond .ge 7, 3), (82, .iconst (-1), 1), (83, .goto 4, 3), (86, .iconst 1, 1), (87, .ireturn, 1), (88, .iinc 6 1, 3), (91, .goto (-53), 3), (94, .iconst 0, 1), (95, .ireturn, 1)] := Ds.of h _ (by decide +kernel)
theorem D_42 {c : Code} (h : c.code = jdk_2097_method_121_code) : Ds c [(0, .aload_n 0, 1), (1, .getfield 32, 3), (4, .aload_n 1, 1), (5, .getfield 32, 3), (8, .if_icmp .ne 50, 3), (11, .aload_n 0, 1), (12, .getfield 32, 3), (15, .lookupswitch 41 #[((-1), 33), (1, 25)], 25), (40, .aload_n 0, 1), (41, .aload_n 1, 1), (42, .invokevirtual 365, 3), (45, .goto 12, 3), (48, .aload_n 1, 1), (49, .aload_n 0, 1), (50, .invokevirtual 365, 3), (53, .goto 4, 3), (56, .iconst 0, 1), (57, .ireturn, 1), (58, .aload_n 0, 1), (59, .getfield 32, 3), (62, .aload_n 1, 1), (63, .getfield 32, 3), (66, .if_icmp .le 7, 3), (69, .iconst 1, 1), (70, .goto 4, 3), (73, .iconst (-1), 1), (74, .ireturn, 1)] := Ds.of h _ (by decide +kernel)
theorem D_43 {c : Code} (h : c.code = prog_31_method_20_code) : Ds c [(0, .aload_n 0, 1), (1, .getfield 7, 3), (4, .aload_n 1, 1), (5, .getfield 13, 3), (8, .invokevirtual 90, 3), (11, .aload_n 1, 1), (12, .getfield 7, 3), (15, .aload_n 0, 1), (16, .getfield 13, 3), (19, .invokevirtual 90, 3), (22, .invokevirtual 120, 3), (25, .ireturn, 1)] := Ds.of h _ (by decide +kernel)
theorem D_44 {c : Code} (h : c.code = jdk_41_method_12_code) : Ds c [(0, .iload_n 0, 1), (1, .ifCond .lt 13, 3), (4, .iload_n 0, 1), (5, .iload_n 1, 1), (6, .if_icmp .gt 8, 3), (9, .iload_n 1, 1), (10, .iload_n 2, 1), (11, .if_icmp .le 11, 3), (22, .iload_n 0, 1), (23, .ireturn, 1)] := Ds.of h _ (by decide +kernel)
theorem D_45 {c : Code} (h : c.code = jdk_31_method_18_code) : Ds c [(0, .iload_n 0, 1), (1, .iload_n 1, 1), (2, .iload_n 2, 1), (3, .aconst_null, 1), (4, .invokestatic 111, 3), (7, .ireturn, 1)] := Ds.of h _ (by decide +kernel)
theorem D_46 {c : Code} (h : c.code = jdk_2097_method_103_code) : Ds c [(0, .bipush 32, 2), (2, .iload_n 3, 1), (3, .isub, 1), (4, .istore 5, 2), (6, .iconst 0, 1), (7, .istore 6, 2), (9, .iload 6, 2), (11, .iload 4, 2), (13, .if_icmp .ge 29, 3), (42, .return_, 1)] := Ds.of h _ (by decide +kernel)
theorem D_47 {c : Code} (h : c.code = jdk_65_method_131_code) : Ds c [(0, .iload_n 1, 1), (1, .iload_n 0, 1), (2, .if_icmp .ge 35, 3), (37, .return_, 1)] := Ds.of h _ (by decide +kernel)
theorem D_48 {c : Code} (h : c.code = jdk_29_method_69_code) : Ds c [(0, .iload_n 0, 1), (1, .iload_n 1, 1), (2, .if_icmp .gt 7, 3), (5, .iload_n 0, 1), (6, .goto 4, 3), (10, .ireturn, 1)] := Ds.of h _ (by decide +kernel)
theorem D_49 {c : Code} (h : c.code = jdk_65_method_137_code) : Ds c [(0, .iload_n 1, 1), (1, .iload_n 2, 1), (2, .invokestatic 343, 3), (5, .iload_n 2, 1), (6, .iload_n 1, 1), (7, .isub, 1), (8, .istore_n 3, 1), (9, .iload_n 3, 1), (10, .newarray .int, 2), (12, .astore 4, 2), (14, .aload_n 0, 1), (15, .iload_n 1, 1), (16, .aload 4, 2), (18, .iconst 0, 1), (19, .aload_n 0, 1), (20, .arraylength, 1), (21, .iload_n 1, 1), (22, .isub, 1), (23, .iload_n 3, 1), (24, .invokestatic 304, 3), (27, .invokestatic 150, 3), (30, .aload 4, 2), (32, .areturn, 1)] := Ds.of h _ (by decide +kernel)
theorem D_50 {c : Code} (h : c.code = jdk_65_method_136_code) : Ds c [(0, .iload_n 1, 1), (1, .ifCond .ne 9, 3), (10, .aload_n 0, 1), (11, .iload_n 1, 1), (12, .iload_n 2, 1), (13, .invokestatic 351, 3), (16, .areturn, 1)] := Ds.of h _ (by decide +kernel)
theorem D_51 {c : Code} (h : c.code = prog_31_method_13_code) : Ds c [(0, .aload_n 0, 1), (1, .getfield 7, 3), (4, .aload_n 1, 1), (5, .getfield 7, 3), (8, .invokevirtual 90, 3), (11, .aload_n 0, 1), (12, .getfield 13, 3), (15, .aload_n 1, 1), (16, .getfield 13, 3), (19, .invokevirtual 90, 3), (22, .invokestatic 28, 3), (25, .areturn, 1)] := Ds.of h _ (by decide +kernel)
theorem D_52 {c : Code} (h : c.code = prog_26_method_9_code) : Ds c [(0, .aload_n 0, 1), (1, .aload_n 1, 1), (2, .invokevirtual 150, 3), (5, .ldc2_w 104, 3), (8, .invokestatic 106, 3), (11, .invokevirtual 109, 3), (14, .ifCond .le 7, 3), (21, .iconst 0, 1), (22, .ireturn, 1)] := Ds.of h _ (by decide +kernel)
theorem D_53 {c : Code} (h : c.code = prog_26_method_4_code) : Ds c [(0, .iload_n 0, 1), (1, .i2l, 1), (2, .invokestatic 106, 3), (5, .iload_n 1, 1), (6, .i2l, 1), (7, .invokestatic 106, 3), (10, .invokestatic 118, 3), (13, .ifCond .eq 13, 3), (26, .return_, 1)] := Ds.of h _ (by decide +kernel)
theorem own_hEL {Z : State} {a0 : Array Value} (hw : ∀ d ∈ tables_1, d.before a0 Z = true) : EW Z a0 consts_1 := EW.nil
theorem own_wS {Z : State} {a0 : Array Value} (hw : ∀ d ∈ tables_1, d.before a0 Z = true) : ∀ d ∈ Bundle.stringAtoms, d.before a0 Z = true := fun d hd => hw d ((by decide +kernel : ∀ d ∈ Bundle.stringAtoms, d ∈ tables_1) d hd)
theorem pn_java_lang_Integer : plainName "java/lang/Integer" = true := by first | (simp [plainName, overriddenIn]; done) | decide +kernel
theorem pd_0 : parseMethodDescriptor "(I)I" = some ⟨[.int], some .int⟩ := by decide +kernel
theorem pn_java_math_BigInteger : plainName "java/math/BigInteger" = true := by first | (simp [plainName, overriddenIn]; done) | decide +kernel
theorem pn_java_math_MutableBigInteger : plainName "java/math/MutableBigInteger" = true := by first | (simp [plainName, overriddenIn]; done) | decide +kernel
theorem pd_1 : parseMethodDescriptor "(Ljava/math/MutableBigInteger;)I" = some ⟨[(.object "java/math/MutableBigInteger")], some .int⟩ := by decide +kernel
theorem pd_2 : parseMethodDescriptor "()V" = some ⟨[], none⟩ := by decide +kernel
theorem pf_0 : parseFieldDescriptor "I" = some .int := by decide +kernel
theorem pf_1 : parseFieldDescriptor "[I" = some (.array .int) := by decide +kernel
theorem sn_java_math_MutableBigInteger_value__intLen {Z : State} {a0 : Array Value} (hw : ∀ d ∈ tables_1, d.before a0 Z = true) : Jvm.RoadKit.slotOf Z "java/math/MutableBigInteger" "value" "[I" ≠ Jvm.RoadKit.slotOf Z "java/math/MutableBigInteger" "intLen" "I" := slot_ne (Or.inl (tw hw 138 rfl)) (Or.inl (tw hw 140 rfl)) (by decide) pf_1 pf_0
theorem sn_java_math_MutableBigInteger_offset__intLen {Z : State} {a0 : Array Value} (hw : ∀ d ∈ tables_1, d.before a0 Z = true) : Jvm.RoadKit.slotOf Z "java/math/MutableBigInteger" "offset" "I" ≠ Jvm.RoadKit.slotOf Z "java/math/MutableBigInteger" "intLen" "I" := slot_ne (Or.inl (tw hw 136 rfl)) (Or.inl (tw hw 140 rfl)) (by decide) pf_0 pf_0
theorem pd_3 : parseMethodDescriptor "(I)V" = some ⟨[.int], none⟩ := by decide +kernel
theorem sn_java_math_MutableBigInteger_value__offset {Z : State} {a0 : Array Value} (hw : ∀ d ∈ tables_1, d.before a0 Z = true) : Jvm.RoadKit.slotOf Z "java/math/MutableBigInteger" "value" "[I" ≠ Jvm.RoadKit.slotOf Z "java/math/MutableBigInteger" "offset" "I" := slot_ne (Or.inl (tw hw 138 rfl)) (Or.inl (tw hw 136 rfl)) (by decide) pf_1 pf_0
theorem sn_java_math_MutableBigInteger_intLen__offset {Z : State} {a0 : Array Value} (hw : ∀ d ∈ tables_1, d.before a0 Z = true) : Jvm.RoadKit.slotOf Z "java/math/MutableBigInteger" "intLen" "I" ≠ Jvm.RoadKit.slotOf Z "java/math/MutableBigInteger" "offset" "I" := slot_ne (Or.inl (tw hw 140 rfl)) (Or.inl (tw hw 136 rfl)) (by decide) pf_0 pf_0
theorem sn_java_math_MutableBigInteger_intLen__value {Z : State} {a0 : Array Value} (hw : ∀ d ∈ tables_1, d.before a0 Z = true) : Jvm.RoadKit.slotOf Z "java/math/MutableBigInteger" "intLen" "I" ≠ Jvm.RoadKit.slotOf Z "java/math/MutableBigInteger" "value" "[I" := slot_ne (Or.inl (tw hw 140 rfl)) (Or.inl (tw hw 138 rfl)) (by decide) pf_0 pf_1
theorem sn_java_math_MutableBigInteger_offset__value {Z : State} {a0 : Array Value} (hw : ∀ d ∈ tables_1, d.before a0 Z = true) : Jvm.RoadKit.slotOf Z "java/math/MutableBigInteger" "offset" "I" ≠ Jvm.RoadKit.slotOf Z "java/math/MutableBigInteger" "value" "[I" := slot_ne (Or.inl (tw hw 136 rfl)) (Or.inl (tw hw 138 rfl)) (by decide) pf_0 pf_1
theorem pd_4 : parseMethodDescriptor "()I" = some ⟨[], some .int⟩ := by decide +kernel
theorem pd_5 : parseMethodDescriptor "(II)I" = some ⟨[.int, .int], some .int⟩ := by decide +kernel
theorem pfor_rmAbs0 : plainFor Nm13 = true := by decide +kernel
theorem pfor_rmAbs1 : plainFor Nm13 = true := by decide +kernel
theorem pd_6 : parseMethodDescriptor "(Ljava/math/MutableBigInteger;)Ljava/math/MutableBigInteger;" = some ⟨[(.object "java/math/MutableBigInteger")], some (.object "java/math/MutableBigInteger")⟩ := by decide +kernel
theorem pn_java_util_Arrays : plainName "java/util/Arrays" = true := by first | (simp [plainName, overriddenIn]; done) | decide +kernel
theorem pd_7 : parseMethodDescriptor "([II)[I" = some ⟨[(.array .int), .int], some (.array .int)⟩ := by decide +kernel
theorem pn_java_lang_Number : plainName "java/lang/Number" = true := by first | (simp [plainName, overriddenIn]; done) | decide +kernel
theorem sn_java_math_BigInteger_mag__signum {Z : State} {a0 : Array Value} (hw : ∀ d ∈ tables_1, d.before a0 Z = true) : Jvm.RoadKit.slotOf Z "java/math/BigInteger" "mag" "[I" ≠ Jvm.RoadKit.slotOf Z "java/math/BigInteger" "signum" "I" := slot_ne (Or.inr (tw hw 50 rfl)) (Or.inr (tw hw 48 rfl)) (by decide) pf_1 pf_0
theorem sn_java_math_BigInteger_signum__mag {Z : State} {a0 : Array Value} (hw : ∀ d ∈ tables_1, d.before a0 Z = true) : Jvm.RoadKit.slotOf Z "java/math/BigInteger" "signum" "I" ≠ Jvm.RoadKit.slotOf Z "java/math/BigInteger" "mag" "[I" := slot_ne (Or.inr (tw hw 48 rfl)) (Or.inr (tw hw 50 rfl)) (by decide) pf_0 pf_1
theorem pd_8 : parseMethodDescriptor "()[I" = some ⟨[], some (.array .int)⟩ := by decide +kernel
theorem pd_9 : parseMethodDescriptor "([II)V" = some ⟨[(.array .int), .int], none⟩ := by decide +kernel
theorem pd_10 : parseMethodDescriptor "()Ljava/math/BigInteger;" = some ⟨[], some (.object "java/math/BigInteger")⟩ := by decide +kernel
theorem pd_11 : parseMethodDescriptor "(Ljava/math/BigInteger;)V" = some ⟨[(.object "java/math/BigInteger")], none⟩ := by decide +kernel
theorem pd_12 : parseMethodDescriptor "(I)Ljava/math/BigInteger;" = some ⟨[.int], some (.object "java/math/BigInteger")⟩ := by decide +kernel
theorem pd_13 : parseMethodDescriptor "(ILjava/math/MutableBigInteger;)I" = some ⟨[.int, (.object "java/math/MutableBigInteger")], some .int⟩ := by decide +kernel
theorem pd_14 : parseMethodDescriptor "([I)V" = some ⟨[(.array .int)], none⟩ := by decide +kernel
theorem pd_15 : parseMethodDescriptor "(Ljava/math/MutableBigInteger;Ljava/math/MutableBigInteger;Z)Ljava/math/MutableBigInteger;" = some ⟨[(.object "java/math/MutableBigInteger"), (.object "java/math/MutableBigInteger"), .boolean], some (.object "java/math/MutableBigInteger")⟩ := by decide +kernel
theorem pd_16 : parseMethodDescriptor "(Ljava/math/BigInteger;)Ljava/math/BigInteger;" = some ⟨[(.object "java/math/BigInteger")], some (.object "java/math/BigInteger")⟩ := by decide +kernel
theorem pd_17 : parseMethodDescriptor "(J)V" = some ⟨[.long], none⟩ := by decide +kernel
theorem pf_2 : parseFieldDescriptor "Ljava/math/BigInteger;" = some (.object "java/math/BigInteger") := by decide +kernel
theorem sn_com_example_curves_to_bounds_curvestobounds_curve_Rational_denominator__numerator {Z : State} {a0 : Array Value} (hw : ∀ d ∈ tables_1, d.before a0 Z = true) : Jvm.RoadKit.slotOf Z "com/example/curves_to_bounds/curvestobounds/curve/Rational" "denominator" "Ljava/math/BigInteger;" ≠ Jvm.RoadKit.slotOf Z "com/example/curves_to_bounds/curvestobounds/curve/Rational" "numerator" "Ljava/math/BigInteger;" := slot_ne (Or.inr (tw hw 26 rfl)) (Or.inr (tw hw 24 rfl)) (by decide) pf_2 pf_2
theorem sn_com_example_curves_to_bounds_curvestobounds_curve_Rational_numerator__denominator {Z : State} {a0 : Array Value} (hw : ∀ d ∈ tables_1, d.before a0 Z = true) : Jvm.RoadKit.slotOf Z "com/example/curves_to_bounds/curvestobounds/curve/Rational" "numerator" "Ljava/math/BigInteger;" ≠ Jvm.RoadKit.slotOf Z "com/example/curves_to_bounds/curvestobounds/curve/Rational" "denominator" "Ljava/math/BigInteger;" := slot_ne (Or.inr (tw hw 24 rfl)) (Or.inr (tw hw 26 rfl)) (by decide) pf_2 pf_2
theorem pn_com_example_curves_to_bounds_curvestobounds_curve_Rational : plainName "com/example/curves_to_bounds/curvestobounds/curve/Rational" = true := by first | (simp [plainName, overriddenIn]; done) | decide +kernel
theorem pd_18 : parseMethodDescriptor "(J)Ljava/math/BigInteger;" = some ⟨[.long], some (.object "java/math/BigInteger")⟩ := by decide +kernel
theorem pd_19 : parseMethodDescriptor "(Ljava/math/BigInteger;Ljava/math/BigInteger;)V" = some ⟨[(.object "java/math/BigInteger"), (.object "java/math/BigInteger")], none⟩ := by decide +kernel
theorem pn_java_util_Objects : plainName "java/util/Objects" = true := by first | (simp [plainName, overriddenIn]; done) | decide +kernel
theorem pd_20 : parseMethodDescriptor "(Ljava/lang/Object;Ljava/lang/String;)Ljava/lang/Object;" = some ⟨[(.object "java/lang/Object"), (.object "java/lang/String")], some (.object "java/lang/Object")⟩ := by decide +kernel
theorem pd_21 : parseMethodDescriptor "([III)Ljava/math/BigInteger;" = some ⟨[(.array .int), .int, .int], some (.object "java/math/BigInteger")⟩ := by decide +kernel
theorem pd_22 : parseMethodDescriptor "(Ljava/math/BigInteger;ZZI)Ljava/math/BigInteger;" = some ⟨[(.object "java/math/BigInteger"), .boolean, .boolean, .int], some (.object "java/math/BigInteger")⟩ := by decide +kernel
theorem pd_23 : parseMethodDescriptor "(Ljava/math/BigInteger;)I" = some ⟨[(.object "java/math/BigInteger")], some .int⟩ := by decide +kernel
theorem pn_jdk_internal_util_Preconditions : plainName "jdk/internal/util/Preconditions" = true := by first | (simp [plainName, overriddenIn]; done) | decide +kernel
theorem pd_24 : parseMethodDescriptor "(IIILjava/util/function/BiFunction;)I" = some ⟨[.int, .int, .int, (.object "java/util/function/BiFunction")], some .int⟩ := by decide +kernel
theorem pd_25 : parseMethodDescriptor "(III)I" = some ⟨[.int, .int, .int], some .int⟩ := by decide +kernel
theorem pd_26 : parseMethodDescriptor "([I[IIII)V" = some ⟨[(.array .int), (.array .int), .int, .int, .int], none⟩ := by decide +kernel
theorem pfor_rmMin1 : plainFor Nm48 = true := by decide +kernel
theorem pd_27 : parseMethodDescriptor "(II)V" = some ⟨[.int, .int], none⟩ := by decide +kernel
theorem pd_28 : parseMethodDescriptor "([III)[I" = some ⟨[(.array .int), .int, .int], some (.array .int)⟩ := by decide +kernel
theorem pd_29 : parseMethodDescriptor "(Ljava/math/BigInteger;Ljava/math/BigInteger;)Lcom/example/curves_to_bounds/curvestobounds/curve/Rational;" = some ⟨[(.object "java/math/BigInteger"), (.object "java/math/BigInteger")], some (.object "com/example/curves_to_bounds/curvestobounds/curve/Rational")⟩ := by decide +kernel
theorem pd_30 : parseMethodDescriptor "(Lcom/example/curves_to_bounds/curvestobounds/curve/Rational;)Lcom/example/curves_to_bounds/curvestobounds/curve/Rational;" = some ⟨[(.object "com/example/curves_to_bounds/curvestobounds/curve/Rational")], some (.object "com/example/curves_to_bounds/curvestobounds/curve/Rational")⟩ := by decide +kernel
theorem pd_31 : parseMethodDescriptor "(J)Lcom/example/curves_to_bounds/curvestobounds/curve/Rational;" = some ⟨[.long], some (.object "com/example/curves_to_bounds/curvestobounds/curve/Rational")⟩ := by decide +kernel
theorem pd_32 : parseMethodDescriptor "(Lcom/example/curves_to_bounds/curvestobounds/curve/Rational;)I" = some ⟨[(.object "com/example/curves_to_bounds/curvestobounds/curve/Rational")], some .int⟩ := by decide +kernel
theorem pn_com_example_curves_to_bounds_curvestobounds_curve_Curve : plainName "com/example/curves_to_bounds/curvestobounds/curve/Curve" = true := by first | (simp [plainName, overriddenIn]; done) | decide +kernel
theorem pd_33 : parseMethodDescriptor "(Lcom/example/curves_to_bounds/curvestobounds/curve/Rational;Lcom/example/curves_to_bounds/curvestobounds/curve/Rational;)Z" = some ⟨[(.object "com/example/curves_to_bounds/curvestobounds/curve/Rational"), (.object "com/example/curves_to_bounds/curvestobounds/curve/Rational")], some .boolean⟩ := by decide +kernel
theorem pn_com_example_curves_to_bounds_curvestobounds_curve_CurveRequirePairsPinLaw : plainName "com/example/curves_to_bounds/curvestobounds/curve/CurveRequirePairsPinLaw" = true := by first | (simp [plainName, overriddenIn]; done) | decide +kernel
def QrmNtz1 (Z : State)  (h0 : Heap) (n0 : Nat) (v : Option Value) (h : Heap) (L : List Loc) : Prop := v = some (.int (0 : Int32)) ∧ Fr n0 L ∧ h = h0
abbrev RrmNtz1 : Room := { frames := 0, cells := 0, slots := 0, locals := 0 }
theorem rmNtz1 (l : Launch) (Z : State) (a0 : Array Value) (hw : ∀ d ∈ tables_1, d.before a0 Z = true) (ws : List Jvm.Cond)  (h0 : Heap) (n0 : Nat) (Z0 : n0 ≤ h0.size)   : Mf l Z Nm0 jdk_33_method_48_code 2 (Option.some Jvm.ClassFile.FieldType.int) ws RrmNtz1 #[(.int (1 : Int32))] h0 (QrmNtz1 Z  h0 n0) := by
 refine own_entry (plainFor_of_name pn_java_lang_Integer) #[iv 1, .unset] (fun _ => rfl) fun p e s m below meth c s₁ hx hby hml hown hnm hlk hre hZ X0 e0 => ?_
 have N0 := Fr.nil n0
 obtain ⟨d0, d1, d2, d3, d4, d5, d6, d7, d8, d9, d12, d13, d15, d16, -⟩ := D_0 hby
 refine zI X0 hx d0 rfl 1 rfl ?_
 refine zK X0 hx d1 (-1 : Int32) rfl 2 rfl ?_
 refine zq 3 [.int ((1 : Int32) ^^^ (-1 : Int32))] (fun t k => XS.ixor X0.here hx rfl d2 rfl k) ?_
 have rw1 : ((1 : Int32) ^^^ (-1 : Int32)) = (-2 : Int32) := (by decide)
 rw [rw1]
 refine zI X0 hx d3 rfl 4 rfl ?_
 refine zK X0 hx d4 1 rfl 5 rfl ?_
 refine zq 6 [.int 0, .int (-2)] (fun t k => XS.isub X0.here hx rfl d5 rfl k) ?_
 refine zq 7 [.int ((-2 : Int32) &&& (0 : Int32))] (fun t k => XS.iand X0.here hx rfl d6 rfl k) ?_
 have rw2 : ((-2 : Int32) &&& (0 : Int32)) = (0 : Int32) := (by decide)
 rw [rw2]
 refine zl 8 _ [] (fun t k => XS.istoreN X0.here hx rfl d7 rfl (l' := #[iv 0, .unset]) rfl k) ?_
 refine zI X0 hx d8 rfl 9 rfl ?_
 refine zN X0 hx d9 ((if0 _ _).trans (flt (by decide : ¬ ((0 : Int32) < (0 : Int32)))).2.2.1) 12 rfl ?_
 refine zI X0 hx d12 rfl 13 rfl ?_
 refine zq 15 [.int 32, .int 0] (fun t k => XS.bipush X0.here hx rfl d13 k) ?_
 refine zq 16 [.int ((0 : Int32) &&& (32 : Int32))] (fun t k => XS.iand X0.here hx rfl d15 rfl k) ?_
 have rw3 : ((0 : Int32) &&& (32 : Int32)) = (0 : Int32) := (by decide)
 rw [rw3]
 exact own_finI X0 hx hlk (t := .int) hre (by simp) rfl d16 e0 ⟨rfl, N0, rfl⟩ (by decide) (by decide)
def QrmNtz (Z : State) (p1 : Int32) (h0 : Heap) (n0 : Nat) (v : Option Value) (h : Heap) (L : List Loc) : Prop := ∃ z : Int32, v = some (.int z) ∧ Fr n0 L ∧ h = h0 ∧ (IsNtz p1 z)
abbrev RrmNtz : Room := { frames := 0, cells := 0, slots := 0, locals := 0 }
theorem rmNtz (l : Launch) (Z : State) (a0 : Array Value) (hw : ∀ d ∈ tables_1, d.before a0 Z = true) (ws : List Jvm.Cond) (p1 : Int32) (h0 : Heap) (n0 : Nat) (Z0 : n0 ≤ h0.size)  (hz : ¬ p1 = (0 : Int32)) : Mf l Z Nm0 jdk_33_method_48_code 2 (Option.some Jvm.ClassFile.FieldType.int) ws RrmNtz #[(.int p1)] h0 (QrmNtz Z p1 h0 n0) := by
 refine own_entry (plainFor_of_name pn_java_lang_Integer) #[iv p1, .unset] (fun _ => rfl) fun p e s m below meth c s₁ hx hby hml hown hnm hlk hre hZ X0 e0 => ?_
 have N0 := Fr.nil n0
 obtain ⟨d0, d1, d2, d3, d4, d5, d6, d7, d8, d9, d12, d13, d15, d16, d17, d18, d19, d20, d23, d26, d29, d30, d32, d33, d34, d35, d38, d41, d44, d45, d47, d48, d49, d50, d52, d55, d58, d59, d60, d61, d62, d63, d64, d67, d70, d71, d72, d73, d74, d75, d76, d77, d78, d79, -⟩ := D_0 hby
 refine zI X0 hx d0 rfl 1 rfl ?_
 refine zK X0 hx d1 (-1 : Int32) rfl 2 rfl ?_
 refine zq 3 [.int (p1 ^^^ (-1 : Int32))] (fun t k => XS.ixor X0.here hx rfl d2 rfl k) ?_
 refine zI X0 hx d3 rfl 4 rfl ?_
 refine zK X0 hx d4 1 rfl 5 rfl ?_
 refine zq 6 [.int (p1 - (1 : Int32)), .int (p1 ^^^ (-1 : Int32))] (fun t k => XS.isub X0.here hx rfl d5 rfl k) ?_
 refine zq 7 [.int ((p1 ^^^ (-1 : Int32)) &&& (p1 - (1 : Int32)))] (fun t k => XS.iand X0.here hx rfl d6 rfl k) ?_
 refine zl 8 _ [] (fun t k => XS.istoreN X0.here hx rfl d7 rfl (l' := #[iv ((p1 ^^^ (-1 : Int32)) &&& (p1 - (1 : Int32))), .unset]) rfl k) ?_
 obtain ⟨k, j, hk, ex, em⟩ := ntz_mask hz
 obtain ⟨y0, hy0⟩ : ∃ z, z = ((p1 ^^^ (-1 : Int32)) &&& (p1 - (1 : Int32))) := ⟨_, rfl⟩
 rw [← hy0] at em
 rw [← hy0]
 refine zI X0 hx d8 rfl 9 rfl ?_
 by_cases c1 : (0 : Int32) < y0
 ·refine zY X0 hx d9 ((if0 _ _).trans (tlt c1).2.2.1) 17 (by decide) ?_
  refine zK X0 hx d17 1 rfl 18 rfl ?_
  refine zl 19 _ [] (fun t k => XS.istoreN X0.here hx rfl d18 rfl (l' := #[iv y0, iv 1]) rfl k) ?_
  refine zI X0 hx d19 rfl 20 rfl ?_
  refine zq 23 [.int 65536, .int y0] (fun t k => X0.ldcWInt hx hown (mvT hZ (tw hw 221 rfl)) (g := (mkF m 20 #[iv y0, iv 1] [.int y0])) rfl d20 _ k) ?_
  have J4 : ∀ (z2 : Int32) (z3 : Int32) (hz2 : z2 = ((y0.toUInt32 >>> ((16 : Int32) &&& 31).toUInt32).toInt32) ∨ z2 = y0) (hz3 : z3 = ((1 : Int32) + (16 : Int32)) ∨ z3 = (1 : Int32)) (jf5 : NtzI k 16 z3 z2), Ends p.tables e below (fun o U' => ∃ v L, o = .returned v ∧ QrmNtz Z p1 h0 n0 v U'.heap L ∧ FrameEnd s o U' L RrmNtz.cells RrmNtz.slots) (s₁.setTop (mkF m 34 #[iv z2, iv z3] [])) := by
   intro z2 z3 hz2 hz3 jf5
   refine zI X0 hx d34 rfl 35 rfl ?_
   refine zq 38 [.int 256, .int z2] (fun t k => XS.sipush X0.here hx rfl d35 k) ?_
   have J8 : ∀ (z6 : Int32) (z7 : Int32) (hz6 : z6 = ((z2.toUInt32 >>> ((8 : Int32) &&& 31).toUInt32).toInt32) ∨ z6 = z2) (hz7 : z7 = (z3 + (8 : Int32)) ∨ z7 = z3) (jf9 : NtzI k 8 z7 z6), Ends p.tables e below (fun o U' => ∃ v L, o = .returned v ∧ QrmNtz Z p1 h0 n0 v U'.heap L ∧ FrameEnd s o U' L RrmNtz.cells RrmNtz.slots) (s₁.setTop (mkF m 49 #[iv z6, iv z7] [])) := by
    intro z6 z7 hz6 hz7 jf9
    refine zI X0 hx d49 rfl 50 rfl ?_
    refine zq 52 [.int 16, .int z6] (fun t k => XS.bipush X0.here hx rfl d50 k) ?_
    have J12 : ∀ (z10 : Int32) (z11 : Int32) (hz10 : z10 = ((z6.toUInt32 >>> ((4 : Int32) &&& 31).toUInt32).toInt32) ∨ z10 = z6) (hz11 : z11 = (z7 + (4 : Int32)) ∨ z11 = z7) (jf13 : NtzI k 4 z11 z10), Ends p.tables e below (fun o U' => ∃ v L, o = .returned v ∧ QrmNtz Z p1 h0 n0 v U'.heap L ∧ FrameEnd s o U' L RrmNtz.cells RrmNtz.slots) (s₁.setTop (mkF m 62 #[iv z10, iv z11] [])) := by
     intro z10 z11 hz10 hz11 jf13
     refine zI X0 hx d62 rfl 63 rfl ?_
     refine zK X0 hx d63 4 rfl 64 rfl ?_
     have J16 : ∀ (z14 : Int32) (z15 : Int32) (hz14 : z14 = ((z10.toUInt32 >>> ((2 : Int32) &&& 31).toUInt32).toInt32) ∨ z14 = z10) (hz15 : z15 = (z11 + (2 : Int32)) ∨ z15 = z11) (jf17 : NtzI k 2 z15 z14), Ends p.tables e below (fun o U' => ∃ v L, o = .returned v ∧ QrmNtz Z p1 h0 n0 v U'.heap L ∧ FrameEnd s o U' L RrmNtz.cells RrmNtz.slots) (s₁.setTop (mkF m 74 #[iv z14, iv z15] [])) := by
      intro z14 z15 hz14 hz15 jf17
      refine zI X0 hx d74 rfl 75 rfl ?_
      refine zI X0 hx d75 rfl 76 rfl ?_
      refine zK X0 hx d76 1 rfl 77 rfl ?_
      refine zq 78 [.int ((z14.toUInt32 >>> ((1 : Int32) &&& 31).toUInt32).toInt32), .int z15] (fun t k => XS.iushr X0.here hx rfl d77 rfl k) ?_
      refine zq 79 [.int (z15 + ((z14.toUInt32 >>> ((1 : Int32) &&& 31).toUInt32).toInt32))] (fun t k => XS.iadd X0.here hx rfl d78 rfl k) ?_
      exact own_finI X0 hx hlk (t := .int) hre (by simp) rfl d79 e0 ⟨(z15 + ((z14.toUInt32 >>> ((1 : Int32) &&& 31).toUInt32).toInt32)), rfl, N0, rfl, ⟨k, j, hk, ntz_end jf17, ex⟩⟩ (by decide) (by decide)
     by_cases c18 : (4 : Int32) < z10
     ·refine zCN X0 hx d64 (tlt c18).2.2.2 67 rfl ?_
      refine zl 70 _ [] (fun t k => own_iinc X0.here hx rfl (q := (2 : Int32)) (by decide) (l' := #[.val (.int z10), .val (.int (z11 + (2 : Int32)))]) d67 rfl rfl k) ?_
      refine zI X0 hx d70 rfl 71 rfl ?_
      refine zK X0 hx d71 2 rfl 72 rfl ?_
      refine zq 73 [.int ((z10.toUInt32 >>> ((2 : Int32) &&& 31).toUInt32).toInt32)] (fun t k => XS.iushr X0.here hx rfl d72 rfl k) ?_
      refine zl 74 _ [] (fun t k => XS.istoreN X0.here hx rfl d73 rfl (l' := #[iv ((z10.toUInt32 >>> ((2 : Int32) &&& 31).toUInt32).toInt32), iv (z11 + (2 : Int32))]) rfl k) ?_
      exact J16 ((z10.toUInt32 >>> ((2 : Int32) &&& 31).toUInt32).toInt32) (z11 + (2 : Int32)) (Or.inl rfl) (Or.inl rfl) (ntz_stage (b := 2) jf13 (by decide) (s := (2 : Int32)) (q := (2 : Int32)) (by decide +kernel) (by decide +kernel) (by decide) (by decide) (c := (4 : Int32)) (by decide +kernel) (by decide) c18)
     ·refine zCY X0 hx d64 (flt c18).2.2.2 74 (by decide) ?_
      exact J16 z10 z11 (Or.inr rfl) (Or.inr rfl) (ntz_stay (b := 2) jf13 (by decide) (by decide) (by decide) (c := (4 : Int32)) (by decide +kernel) c18)
    by_cases c19 : (16 : Int32) < z6
    ·refine zCN X0 hx d52 (tlt c19).2.2.2 55 rfl ?_
     refine zl 58 _ [] (fun t k => own_iinc X0.here hx rfl (q := (4 : Int32)) (by decide) (l' := #[.val (.int z6), .val (.int (z7 + (4 : Int32)))]) d55 rfl rfl k) ?_
     refine zI X0 hx d58 rfl 59 rfl ?_
     refine zK X0 hx d59 4 rfl 60 rfl ?_
     refine zq 61 [.int ((z6.toUInt32 >>> ((4 : Int32) &&& 31).toUInt32).toInt32)] (fun t k => XS.iushr X0.here hx rfl d60 rfl k) ?_
     refine zl 62 _ [] (fun t k => XS.istoreN X0.here hx rfl d61 rfl (l' := #[iv ((z6.toUInt32 >>> ((4 : Int32) &&& 31).toUInt32).toInt32), iv (z7 + (4 : Int32))]) rfl k) ?_
     exact J12 ((z6.toUInt32 >>> ((4 : Int32) &&& 31).toUInt32).toInt32) (z7 + (4 : Int32)) (Or.inl rfl) (Or.inl rfl) (ntz_stage (b := 4) jf9 (by decide) (s := (4 : Int32)) (q := (4 : Int32)) (by decide +kernel) (by decide +kernel) (by decide) (by decide) (c := (16 : Int32)) (by decide +kernel) (by decide) c19)
    ·refine zCY X0 hx d52 (flt c19).2.2.2 62 (by decide) ?_
     exact J12 z6 z7 (Or.inr rfl) (Or.inr rfl) (ntz_stay (b := 4) jf9 (by decide) (by decide) (by decide) (c := (16 : Int32)) (by decide +kernel) c19)
   by_cases c20 : (256 : Int32) < z2
   ·refine zCN X0 hx d38 (tlt c20).2.2.2 41 rfl ?_
    refine zl 44 _ [] (fun t k => own_iinc X0.here hx rfl (q := (8 : Int32)) (by decide) (l' := #[.val (.int z2), .val (.int (z3 + (8 : Int32)))]) d41 rfl rfl k) ?_
    refine zI X0 hx d44 rfl 45 rfl ?_
    refine zq 47 [.int 8, .int z2] (fun t k => XS.bipush X0.here hx rfl d45 k) ?_
    refine zq 48 [.int ((z2.toUInt32 >>> ((8 : Int32) &&& 31).toUInt32).toInt32)] (fun t k => XS.iushr X0.here hx rfl d47 rfl k) ?_
    refine zl 49 _ [] (fun t k => XS.istoreN X0.here hx rfl d48 rfl (l' := #[iv ((z2.toUInt32 >>> ((8 : Int32) &&& 31).toUInt32).toInt32), iv (z3 + (8 : Int32))]) rfl k) ?_
    exact J8 ((z2.toUInt32 >>> ((8 : Int32) &&& 31).toUInt32).toInt32) (z3 + (8 : Int32)) (Or.inl rfl) (Or.inl rfl) (ntz_stage (b := 8) jf5 (by decide) (s := (8 : Int32)) (q := (8 : Int32)) (by decide +kernel) (by decide +kernel) (by decide) (by decide) (c := (256 : Int32)) (by decide +kernel) (by decide) c20)
   ·refine zCY X0 hx d38 (flt c20).2.2.2 49 (by decide) ?_
    exact J8 z2 z3 (Or.inr rfl) (Or.inr rfl) (ntz_stay (b := 8) jf5 (by decide) (by decide) (by decide) (c := (256 : Int32)) (by decide +kernel) c20)
  by_cases c21 : (65536 : Int32) < y0
  ·refine zCN X0 hx d23 (tlt c21).2.2.2 26 rfl ?_
   refine zl 29 _ [] (fun t k => own_iinc X0.here hx rfl (q := (16 : Int32)) (by decide) (l' := #[.val (.int y0), .val (.int ((1 : Int32) + (16 : Int32)))]) d26 rfl rfl k) ?_
   refine zI X0 hx d29 rfl 30 rfl ?_
   refine zq 32 [.int 16, .int y0] (fun t k => XS.bipush X0.here hx rfl d30 k) ?_
   refine zq 33 [.int ((y0.toUInt32 >>> ((16 : Int32) &&& 31).toUInt32).toInt32)] (fun t k => XS.iushr X0.here hx rfl d32 rfl k) ?_
   refine zl 34 _ [] (fun t k => XS.istoreN X0.here hx rfl d33 rfl (l' := #[iv ((y0.toUInt32 >>> ((16 : Int32) &&& 31).toUInt32).toInt32), iv ((1 : Int32) + (16 : Int32))]) rfl k) ?_
   exact J4 ((y0.toUInt32 >>> ((16 : Int32) &&& 31).toUInt32).toInt32) ((1 : Int32) + (16 : Int32)) (Or.inl rfl) (Or.inl rfl) (ntz_stage (b := 16) (ntz_first em hk c1) (by decide) (s := (16 : Int32)) (q := (16 : Int32)) (by decide +kernel) (by decide +kernel) (by decide) (by decide) (c := (65536 : Int32)) (by decide +kernel) (by decide) c21)
  ·refine zCY X0 hx d23 (flt c21).2.2.2 34 (by decide) ?_
   exact J4 y0 (1 : Int32) (Or.inr rfl) (Or.inr rfl) (ntz_stay (b := 16) (ntz_first em hk c1) (by decide) (by decide) (by decide) (c := (65536 : Int32)) (by decide +kernel) c21)
 ·refine zN X0 hx d9 ((if0 _ _).trans (flt c1).2.2.1) 12 rfl ?_
  refine zI X0 hx d12 rfl 13 rfl ?_
  refine zq 15 [.int 32, .int y0] (fun t k => XS.bipush X0.here hx rfl d13 k) ?_
  refine zq 16 [.int (y0 &&& (32 : Int32))] (fun t k => XS.iand X0.here hx rfl d15 rfl k) ?_
  exact own_finI X0 hx hlk (t := .int) hre (by simp) rfl d16 e0 ⟨(y0 &&& (32 : Int32)), rfl, N0, rfl, (ntz_none ex em hk c1)⟩ (by decide) (by decide)
def QrmNlz (Z : State) (p1 : Int32) (h0 : Heap) (n0 : Nat) (v : Option Value) (h : Heap) (L : List Loc) : Prop := ∃ z : Int32, v = some (.int z) ∧ Fr n0 L ∧ h = h0 ∧ (IsNlz p1 z)
abbrev RrmNlz : Room := { frames := 0, cells := 0, slots := 0, locals := 0 }
theorem rmNlz (l : Launch) (Z : State) (a0 : Array Value) (hw : ∀ d ∈ tables_1, d.before a0 Z = true) (ws : List Jvm.Cond) (p1 : Int32) (h0 : Heap) (n0 : Nat) (Z0 : n0 ≤ h0.size)  (hz : ¬ p1 = (0 : Int32)) : Mf l Z Nm1 jdk_33_method_47_code 2 (Option.some Jvm.ClassFile.FieldType.int) ws RrmNlz #[(.int p1)] h0 (QrmNlz Z p1 h0 n0) := by
 refine own_entry (plainFor_of_name pn_java_lang_Integer) #[iv p1, .unset] (fun _ => rfl) fun p e s m below meth c s₁ hx hby hml hown hnm hlk hre hZ X0 e0 => ?_
 have N0 := Fr.nil n0
 obtain ⟨d0, d1, d4, d5, d13, d14, d15, d17, d18, d19, d22, d25, d28, d29, d31, d32, d33, d34, d37, d40, d43, d44, d46, d47, d48, d49, d51, d54, d57, d58, d59, d60, d61, d62, d63, d66, d69, d70, d71, d72, d73, d74, d75, d76, d77, d78, -⟩ := D_1 hby
 refine zI X0 hx d0 rfl 1 rfl ?_
 by_cases c1 : (0 : Int32) < p1
 ·refine zY X0 hx d1 ((if0 _ _).trans (tlt c1).2.2.1) 15 (by decide) ?_
  refine zq 17 [.int 31] (fun t k => XS.bipush X0.here hx rfl d15 k) ?_
  refine zl 18 _ [] (fun t k => XS.istoreN X0.here hx rfl d17 rfl (l' := #[iv p1, iv 31]) rfl k) ?_
  refine zI X0 hx d18 rfl 19 rfl ?_
  refine zq 22 [.int 65536, .int p1] (fun t k => X0.ldcWInt hx hown (mvT hZ (tw hw 221 rfl)) (g := (mkF m 19 #[iv p1, iv 31] [.int p1])) rfl d19 _ k) ?_
  have J4 : ∀ (z2 : Int32) (z3 : Int32) (hz2 : z2 = ((p1.toUInt32 >>> ((16 : Int32) &&& 31).toUInt32).toInt32) ∨ z2 = p1) (hz3 : z3 = ((31 : Int32) + (-16 : Int32)) ∨ z3 = (31 : Int32)) (jf5 : NlzI p1 16 z3 z2), Ends p.tables e below (fun o U' => ∃ v L, o = .returned v ∧ QrmNlz Z p1 h0 n0 v U'.heap L ∧ FrameEnd s o U' L RrmNlz.cells RrmNlz.slots) (s₁.setTop (mkF m 33 #[iv z2, iv z3] [])) := by
   intro z2 z3 hz2 hz3 jf5
   refine zI X0 hx d33 rfl 34 rfl ?_
   refine zq 37 [.int 256, .int z2] (fun t k => XS.sipush X0.here hx rfl d34 k) ?_
   have J8 : ∀ (z6 : Int32) (z7 : Int32) (hz6 : z6 = ((z2.toUInt32 >>> ((8 : Int32) &&& 31).toUInt32).toInt32) ∨ z6 = z2) (hz7 : z7 = (z3 + (-8 : Int32)) ∨ z7 = z3) (jf9 : NlzI p1 8 z7 z6), Ends p.tables e below (fun o U' => ∃ v L, o = .returned v ∧ QrmNlz Z p1 h0 n0 v U'.heap L ∧ FrameEnd s o U' L RrmNlz.cells RrmNlz.slots) (s₁.setTop (mkF m 48 #[iv z6, iv z7] [])) := by
    intro z6 z7 hz6 hz7 jf9
    refine zI X0 hx d48 rfl 49 rfl ?_
    refine zq 51 [.int 16, .int z6] (fun t k => XS.bipush X0.here hx rfl d49 k) ?_
    have J12 : ∀ (z10 : Int32) (z11 : Int32) (hz10 : z10 = ((z6.toUInt32 >>> ((4 : Int32) &&& 31).toUInt32).toInt32) ∨ z10 = z6) (hz11 : z11 = (z7 + (-4 : Int32)) ∨ z11 = z7) (jf13 : NlzI p1 4 z11 z10), Ends p.tables e below (fun o U' => ∃ v L, o = .returned v ∧ QrmNlz Z p1 h0 n0 v U'.heap L ∧ FrameEnd s o U' L RrmNlz.cells RrmNlz.slots) (s₁.setTop (mkF m 61 #[iv z10, iv z11] [])) := by
     intro z10 z11 hz10 hz11 jf13
     refine zI X0 hx d61 rfl 62 rfl ?_
     refine zK X0 hx d62 4 rfl 63 rfl ?_
     have J16 : ∀ (z14 : Int32) (z15 : Int32) (hz14 : z14 = ((z10.toUInt32 >>> ((2 : Int32) &&& 31).toUInt32).toInt32) ∨ z14 = z10) (hz15 : z15 = (z11 + (-2 : Int32)) ∨ z15 = z11) (jf17 : NlzI p1 2 z15 z14), Ends p.tables e below (fun o U' => ∃ v L, o = .returned v ∧ QrmNlz Z p1 h0 n0 v U'.heap L ∧ FrameEnd s o U' L RrmNlz.cells RrmNlz.slots) (s₁.setTop (mkF m 73 #[iv z14, iv z15] [])) := by
      intro z14 z15 hz14 hz15 jf17
      refine zI X0 hx d73 rfl 74 rfl ?_
      refine zI X0 hx d74 rfl 75 rfl ?_
      refine zK X0 hx d75 1 rfl 76 rfl ?_
      refine zq 77 [.int ((z14.toUInt32 >>> ((1 : Int32) &&& 31).toUInt32).toInt32), .int z15] (fun t k => XS.iushr X0.here hx rfl d76 rfl k) ?_
      refine zq 78 [.int (z15 - ((z14.toUInt32 >>> ((1 : Int32) &&& 31).toUInt32).toInt32))] (fun t k => XS.isub X0.here hx rfl d77 rfl k) ?_
      exact own_finI X0 hx hlk (t := .int) hre (by simp) rfl d78 e0 ⟨(z15 - ((z14.toUInt32 >>> ((1 : Int32) &&& 31).toUInt32).toInt32)), rfl, N0, rfl, (nlz_end jf17)⟩ (by decide) (by decide)
     by_cases c18 : z10 < (4 : Int32)
     ·refine zCY X0 hx d63 (tlt c18).1 73 (by decide) ?_
      exact J16 z10 z11 (Or.inr rfl) (Or.inr rfl) (nlz_stay (b := 2) jf13 (by decide) (c := (4 : Int32)) (by decide +kernel) c18)
     ·refine zCN X0 hx d63 (flt c18).1 66 rfl ?_
      refine zl 69 _ [] (fun t k => own_iinc X0.here hx rfl (q := (-2 : Int32)) (by decide) (l' := #[.val (.int z10), .val (.int (z11 + (-2 : Int32)))]) d66 rfl rfl k) ?_
      refine zI X0 hx d69 rfl 70 rfl ?_
      refine zK X0 hx d70 2 rfl 71 rfl ?_
      refine zq 72 [.int ((z10.toUInt32 >>> ((2 : Int32) &&& 31).toUInt32).toInt32)] (fun t k => XS.iushr X0.here hx rfl d71 rfl k) ?_
      refine zl 73 _ [] (fun t k => XS.istoreN X0.here hx rfl d72 rfl (l' := #[iv ((z10.toUInt32 >>> ((2 : Int32) &&& 31).toUInt32).toInt32), iv (z11 + (-2 : Int32))]) rfl k) ?_
      exact J16 ((z10.toUInt32 >>> ((2 : Int32) &&& 31).toUInt32).toInt32) (z11 + (-2 : Int32)) (Or.inl rfl) (Or.inl rfl) (nlz_stage (b := 2) jf13 (s := (2 : Int32)) (q := (-2 : Int32)) (by decide +kernel) (by decide +kernel) (by decide) (by decide) (c := (4 : Int32)) (by decide +kernel) c18)
    by_cases c19 : z6 < (16 : Int32)
    ·refine zCY X0 hx d51 (tlt c19).1 61 (by decide) ?_
     exact J12 z6 z7 (Or.inr rfl) (Or.inr rfl) (nlz_stay (b := 4) jf9 (by decide) (c := (16 : Int32)) (by decide +kernel) c19)
    ·refine zCN X0 hx d51 (flt c19).1 54 rfl ?_
     refine zl 57 _ [] (fun t k => own_iinc X0.here hx rfl (q := (-4 : Int32)) (by decide) (l' := #[.val (.int z6), .val (.int (z7 + (-4 : Int32)))]) d54 rfl rfl k) ?_
     refine zI X0 hx d57 rfl 58 rfl ?_
     refine zK X0 hx d58 4 rfl 59 rfl ?_
     refine zq 60 [.int ((z6.toUInt32 >>> ((4 : Int32) &&& 31).toUInt32).toInt32)] (fun t k => XS.iushr X0.here hx rfl d59 rfl k) ?_
     refine zl 61 _ [] (fun t k => XS.istoreN X0.here hx rfl d60 rfl (l' := #[iv ((z6.toUInt32 >>> ((4 : Int32) &&& 31).toUInt32).toInt32), iv (z7 + (-4 : Int32))]) rfl k) ?_
     exact J12 ((z6.toUInt32 >>> ((4 : Int32) &&& 31).toUInt32).toInt32) (z7 + (-4 : Int32)) (Or.inl rfl) (Or.inl rfl) (nlz_stage (b := 4) jf9 (s := (4 : Int32)) (q := (-4 : Int32)) (by decide +kernel) (by decide +kernel) (by decide) (by decide) (c := (16 : Int32)) (by decide +kernel) c19)
   by_cases c20 : z2 < (256 : Int32)
   ·refine zCY X0 hx d37 (tlt c20).1 48 (by decide) ?_
    exact J8 z2 z3 (Or.inr rfl) (Or.inr rfl) (nlz_stay (b := 8) jf5 (by decide) (c := (256 : Int32)) (by decide +kernel) c20)
   ·refine zCN X0 hx d37 (flt c20).1 40 rfl ?_
    refine zl 43 _ [] (fun t k => own_iinc X0.here hx rfl (q := (-8 : Int32)) (by decide) (l' := #[.val (.int z2), .val (.int (z3 + (-8 : Int32)))]) d40 rfl rfl k) ?_
    refine zI X0 hx d43 rfl 44 rfl ?_
    refine zq 46 [.int 8, .int z2] (fun t k => XS.bipush X0.here hx rfl d44 k) ?_
    refine zq 47 [.int ((z2.toUInt32 >>> ((8 : Int32) &&& 31).toUInt32).toInt32)] (fun t k => XS.iushr X0.here hx rfl d46 rfl k) ?_
    refine zl 48 _ [] (fun t k => XS.istoreN X0.here hx rfl d47 rfl (l' := #[iv ((z2.toUInt32 >>> ((8 : Int32) &&& 31).toUInt32).toInt32), iv (z3 + (-8 : Int32))]) rfl k) ?_
    exact J8 ((z2.toUInt32 >>> ((8 : Int32) &&& 31).toUInt32).toInt32) (z3 + (-8 : Int32)) (Or.inl rfl) (Or.inl rfl) (nlz_stage (b := 8) jf5 (s := (8 : Int32)) (q := (-8 : Int32)) (by decide +kernel) (by decide +kernel) (by decide) (by decide) (c := (256 : Int32)) (by decide +kernel) c20)
  by_cases c21 : p1 < (65536 : Int32)
  ·refine zCY X0 hx d22 (tlt c21).1 33 (by decide) ?_
   exact J4 p1 (31 : Int32) (Or.inr rfl) (Or.inr rfl) (nlz_stay (b := 16) (nlz_first c1) (by decide) (c := (65536 : Int32)) (by decide +kernel) c21)
  ·refine zCN X0 hx d22 (flt c21).1 25 rfl ?_
   refine zl 28 _ [] (fun t k => own_iinc X0.here hx rfl (q := (-16 : Int32)) (by decide) (l' := #[.val (.int p1), .val (.int ((31 : Int32) + (-16 : Int32)))]) d25 rfl rfl k) ?_
   refine zI X0 hx d28 rfl 29 rfl ?_
   refine zq 31 [.int 16, .int p1] (fun t k => XS.bipush X0.here hx rfl d29 k) ?_
   refine zq 32 [.int ((p1.toUInt32 >>> ((16 : Int32) &&& 31).toUInt32).toInt32)] (fun t k => XS.iushr X0.here hx rfl d31 rfl k) ?_
   refine zl 33 _ [] (fun t k => XS.istoreN X0.here hx rfl d32 rfl (l' := #[iv ((p1.toUInt32 >>> ((16 : Int32) &&& 31).toUInt32).toInt32), iv ((31 : Int32) + (-16 : Int32))]) rfl k) ?_
   exact J4 ((p1.toUInt32 >>> ((16 : Int32) &&& 31).toUInt32).toInt32) ((31 : Int32) + (-16 : Int32)) (Or.inl rfl) (Or.inl rfl) (nlz_stage (b := 16) (nlz_first c1) (s := (16 : Int32)) (q := (-16 : Int32)) (by decide +kernel) (by decide +kernel) (by decide) (by decide) (c := (65536 : Int32)) (by decide +kernel) c21)
 ·refine zN X0 hx d1 ((if0 _ _).trans (flt c1).2.2.1) 4 rfl ?_
  refine zI X0 hx d4 rfl 5 rfl ?_
  refine zY X0 hx d5 ((if0 _ _).trans (feq hz).2) 13 (by decide) ?_
  refine zK X0 hx d13 0 rfl 14 rfl ?_
  exact own_finI X0 hx hlk (t := .int) hre (by simp) rfl d14 e0 ⟨(0 : Int32), rfl, N0, rfl, (nlz_neg c1 hz)⟩ (by decide) (by decide)
def QrmBl (Z : State) (p1 : Int32) (h0 : Heap) (n0 : Nat) (v : Option Value) (h : Heap) (L : List Loc) : Prop := ∃ z : Int32, v = some (.int z) ∧ Fr n0 L ∧ h = h0 ∧ (IsBl p1 z)
abbrev RrmBl : Room := { frames := 1, cells := 0, slots := 0, locals := 14 }
theorem rmBl (l : Launch) (Z : State) (a0 : Array Value) (hw : ∀ d ∈ tables_1, d.before a0 Z = true) (ws : List Jvm.Cond) (p1 : Int32) (h0 : Heap) (n0 : Nat) (Z0 : n0 ≤ h0.size)  (hz : ¬ p1 = (0 : Int32)) : Mf l Z Nm2 jdk_2097_method_74_code 1 (Option.some Jvm.ClassFile.FieldType.int) ws RrmBl #[(.int p1)] h0 (QrmBl Z p1 h0 n0) := by
 refine own_entry (plainFor_of_name pn_java_math_BigInteger) #[iv p1] (fun _ => rfl) fun p e s m below meth c s₁ hx hby hml hown hnm hlk hre hZ X0 e0 => ?_
 have N0 := Fr.nil n0
 obtain ⟨d0, d2, d3, d6, d7, -⟩ := D_2 hby
 refine zq 2 [.int 32] (fun t k => XS.bipush X0.here hx rfl d0 k) ?_
 refine zI X0 hx d2 rfl 3 rfl ?_
 refine zCS X0 hx hZ hml hown (tw hw 230 rfl) (tw hw 231 rfl) (tw hw 56 rfl) (tw hw 232 rfl) (rmNlz l Z a0 hw [] p1 h0 n0 Z0 hz) 1 (by decide) [.int 32] rfl (lenOf pd_0 rfl) rfl (Nat.le_of_eq rfl) e0 d3 6 rfl fun T1 L1 v1 X1 ⟨Lc1, hQ1, l1⟩ => ?_
 obtain ⟨z_1, rfl, Nq1, eh1, f1_0⟩ := hQ1
 have N1 := own_frApp N0 Nq1 l1
 refine zx [.int z_1, .int 32] rfl ?_
 refine zq 7 [.int ((32 : Int32) - z_1)] (fun t k => XS.isub X1.here hx rfl d6 rfl k) ?_
 exact own_finI X1 hx hlk (t := .int) hre (by simp) rfl d7 eh1 ⟨((32 : Int32) - z_1), rfl, N1, rfl, (IsNlz.bl f1_0)⟩ (by decide) (by decide)
def QrmGls1 (Z : State) (u : Addr) (ua : Addr) (k : ClassId) (h0 : Heap) (n0 : Nat) (v : Option Value) (h : Heap) (L : List Loc) : Prop := v = some (.int (0 : Int32)) ∧ Fr n0 L ∧ h = h0
abbrev RrmGls1 : Room := { frames := 1, cells := 0, slots := 0, locals := 14 }
theorem rmGls1 (l : Launch) (Z : State) (a0 : Array Value) (hw : ∀ d ∈ tables_1, d.before a0 Z = true) (ws : List Jvm.Cond) (u : Addr) (ua : Addr) (k : ClassId) (h0 : Heap) (n0 : Nat) (Z0 : n0 ≤ h0.size)  (p_Exa_u : Exa Z h0 u "java/math/MutableBigInteger") (p_Fld_u_value : Fld Z h0 u "java/math/MutableBigInteger" "value" "[I" (.ref ua)) (p_Fld_u_intLen : Fld Z h0 u "java/math/MutableBigInteger" "intLen" "I" (.int (1 : Int32))) (p_Fld_u_offset : Fld Z h0 u "java/math/MutableBigInteger" "offset" "I" (.int (0 : Int32))) (p_Arv_ua : Arv Z h0 ua k .int (1 : Int32) [(.int (1 : Int32))] (.int (0 : Int32))) : Mf l Z Nm3 jdk_2101_method_18_code 3 (Option.some Jvm.ClassFile.FieldType.int) ws RrmGls1 #[(.ref u)] h0 (QrmGls1 Z u ua k h0 n0) := by
 refine own_entry (plainFor_of_name pn_java_math_MutableBigInteger) #[rv u, .unset, .unset] (fun _ => rfl) fun p e s m below meth c s₁ hx hby hml hown hnm hlk hre hZ X0 e0 => ?_
 have N0 := Fr.nil n0
 obtain ⟨d0, d1, d4, d9, d10, d13, d14, d15, d16, d17, -, -, -, -, -, -, -, -, -, -, d40, d41, d44, d45, d46, d49, d50, d51, d52, d53, d58, d59, d62, d63, d64, d65, d66, d67, d68, d69, d72, d73, -⟩ := D_3 hby
 refine zR X0 hx d0 rfl rfl 1 rfl ?_
 refine zP X0 hx hZ hown (tw hw 139 rfl) e0 p_Fld_u_intLen d1 4 rfl fun T1 X1 e1 => ?_
 refine zY X1 hx d4 ((if0 _ _).trans (feq (by decide : ¬ ((1 : Int32) = (0 : Int32)))).2) 9 (by decide) ?_
 refine zR X1 hx d9 rfl rfl 10 rfl ?_
 refine zP X1 hx hZ hown (tw hw 139 rfl) e1 p_Fld_u_intLen d10 13 rfl fun T2 X2 e2 => ?_
 refine zK X2 hx d13 1 rfl 14 rfl ?_
 refine zq 15 [.int 0] (fun t k => XS.isub X2.here hx rfl d14 rfl k) ?_
 refine zl 16 _ [] (fun t k => XS.istoreN X2.here hx rfl d15 rfl (l' := #[rv u, iv 0, .unset]) rfl k) ?_
 refine zI X2 hx d16 rfl 17 rfl ?_
 refine zY X2 hx d17 ((if0 _ _).trans (flt (by decide : ¬ ((0 : Int32) < (0 : Int32)))).2.2.2) 40 (by decide) ?_
 refine zR X2 hx d40 rfl rfl 41 rfl ?_
 refine zP X2 hx hZ hown (tw hw 137 rfl) e2 p_Fld_u_value d41 44 rfl fun T3 X3 e3 => ?_
 refine zI X3 hx d44 rfl 45 rfl ?_
 refine zR X3 hx d45 rfl rfl 46 rfl ?_
 refine zP X3 hx hZ hown (tw hw 135 rfl) e3 p_Fld_u_offset d46 49 rfl fun T4 X4 e4 => ?_
 refine zq 50 [.int 0, .ref ua] (fun t k => XS.iadd X4.here hx rfl d49 rfl k) ?_
 refine zIa X4 hx hZ e4 p_Arv_ua (by decide) rfl d50 51 rfl ?_
 refine zl 52 _ [] (fun t k => XS.istoreN X4.here hx rfl d51 rfl (l' := #[rv u, iv 0, iv 1]) rfl k) ?_
 refine zI X4 hx d52 rfl 53 rfl ?_
 refine zY X4 hx d53 ((if0 _ _).trans (feq (by decide : ¬ ((1 : Int32) = (0 : Int32)))).2) 58 (by decide) ?_
 refine zR X4 hx d58 rfl rfl 59 rfl ?_
 refine zP X4 hx hZ hown (tw hw 139 rfl) e4 p_Fld_u_intLen d59 62 rfl fun T6 X6 e6 => ?_
 refine zK X6 hx d62 1 rfl 63 rfl ?_
 refine zq 64 [.int 0] (fun t k => XS.isub X6.here hx rfl d63 rfl k) ?_
 refine zI X6 hx d64 rfl 65 rfl ?_
 refine zq 66 [.int 0] (fun t k => XS.isub X6.here hx rfl d65 rfl k) ?_
 refine zK X6 hx d66 5 rfl 67 rfl ?_
 refine zq 68 [.int ((0 : Int32) <<< ((5 : Int32) &&& 31))] (fun t k => XS.ishl X6.here hx rfl d67 rfl k) ?_
 have rw7 : ((0 : Int32) <<< ((5 : Int32) &&& 31)) = (0 : Int32) := (by decide)
 rw [rw7]
 refine zI X6 hx d68 rfl 69 rfl ?_
 refine zCS X6 hx hZ hml hown (tw hw 220 rfl) (tw hw 64 rfl) (tw hw 56 rfl) (tw hw 65 rfl) (rmNtz1 l Z a0 hw [] h0 n0 Z0) 1 (by decide) [.int 0] rfl (lenOf pd_0 rfl) rfl (Nat.le_of_eq rfl) e6 d69 72 rfl fun T8 L8 v8 X8 ⟨Lc8, hQ8, l8⟩ => ?_
 obtain ⟨rfl, Nq8, eh8⟩ := hQ8
 have N8 := own_frApp N0 Nq8 l8
 refine zx [.int 0, .int 0] rfl ?_
 refine zq 73 [.int 0] (fun t k => XS.iadd X8.here hx rfl d72 rfl k) ?_
 exact own_finI X8 hx hlk (t := .int) hre (by simp) rfl d73 eh8 ⟨rfl, N8, rfl⟩ (by decide) (by decide)
def QrmGlsA (Z : State) (u : Addr) (ua : Addr) (k : ClassId) (x : Int32) (h0 : Heap) (n0 : Nat) (v : Option Value) (h : Heap) (L : List Loc) : Prop := ∃ z : Int32, v = some (.int z) ∧ Fr n0 L ∧ h = h0 ∧ (IsNtz x z)
abbrev RrmGlsA : Room := { frames := 1, cells := 0, slots := 0, locals := 14 }
theorem rmGlsA (l : Launch) (Z : State) (a0 : Array Value) (hw : ∀ d ∈ tables_1, d.before a0 Z = true) (ws : List Jvm.Cond) (u : Addr) (ua : Addr) (k : ClassId) (x : Int32) (h0 : Heap) (n0 : Nat) (Z0 : n0 ≤ h0.size)  (p_Exa_u : Exa Z h0 u "java/math/MutableBigInteger") (p_Fld_u_value : Fld Z h0 u "java/math/MutableBigInteger" "value" "[I" (.ref ua)) (p_Fld_u_intLen : Fld Z h0 u "java/math/MutableBigInteger" "intLen" "I" (.int (1 : Int32))) (p_Fld_u_offset : Fld Z h0 u "java/math/MutableBigInteger" "offset" "I" (.int (0 : Int32))) (p_Arv_ua : Arv Z h0 ua k .int (1 : Int32) [(.int x)] (.int (0 : Int32))) (hz : ¬ x = (0 : Int32)) : Mf l Z Nm3 jdk_2101_method_18_code 3 (Option.some Jvm.ClassFile.FieldType.int) ws RrmGlsA #[(.ref u)] h0 (QrmGlsA Z u ua k x h0 n0) := by
 refine own_entry (plainFor_of_name pn_java_math_MutableBigInteger) #[rv u, .unset, .unset] (fun _ => rfl) fun p e s m below meth c s₁ hx hby hml hown hnm hlk hre hZ X0 e0 => ?_
 have N0 := Fr.nil n0
 obtain ⟨d0, d1, d4, d9, d10, d13, d14, d15, d16, d17, -, -, -, -, -, -, -, -, -, -, d40, d41, d44, d45, d46, d49, d50, d51, d52, d53, d58, d59, d62, d63, d64, d65, d66, d67, d68, d69, d72, d73, -⟩ := D_3 hby
 refine zR X0 hx d0 rfl rfl 1 rfl ?_
 refine zP X0 hx hZ hown (tw hw 139 rfl) e0 p_Fld_u_intLen d1 4 rfl fun T1 X1 e1 => ?_
 refine zY X1 hx d4 ((if0 _ _).trans (feq (by decide : ¬ ((1 : Int32) = (0 : Int32)))).2) 9 (by decide) ?_
 refine zR X1 hx d9 rfl rfl 10 rfl ?_
 refine zP X1 hx hZ hown (tw hw 139 rfl) e1 p_Fld_u_intLen d10 13 rfl fun T2 X2 e2 => ?_
 refine zK X2 hx d13 1 rfl 14 rfl ?_
 refine zq 15 [.int 0] (fun t k => XS.isub X2.here hx rfl d14 rfl k) ?_
 refine zl 16 _ [] (fun t k => XS.istoreN X2.here hx rfl d15 rfl (l' := #[rv u, iv 0, .unset]) rfl k) ?_
 refine zI X2 hx d16 rfl 17 rfl ?_
 refine zY X2 hx d17 ((if0 _ _).trans (flt (by decide : ¬ ((0 : Int32) < (0 : Int32)))).2.2.2) 40 (by decide) ?_
 refine zR X2 hx d40 rfl rfl 41 rfl ?_
 refine zP X2 hx hZ hown (tw hw 137 rfl) e2 p_Fld_u_value d41 44 rfl fun T3 X3 e3 => ?_
 refine zI X3 hx d44 rfl 45 rfl ?_
 refine zR X3 hx d45 rfl rfl 46 rfl ?_
 refine zP X3 hx hZ hown (tw hw 135 rfl) e3 p_Fld_u_offset d46 49 rfl fun T4 X4 e4 => ?_
 refine zq 50 [.int 0, .ref ua] (fun t k => XS.iadd X4.here hx rfl d49 rfl k) ?_
 refine zIa X4 hx hZ e4 p_Arv_ua (by decide) rfl d50 51 rfl ?_
 refine zl 52 _ [] (fun t k => XS.istoreN X4.here hx rfl d51 rfl (l' := #[rv u, iv 0, iv x]) rfl k) ?_
 refine zI X4 hx d52 rfl 53 rfl ?_
 refine zY X4 hx d53 ((if0 _ _).trans (feq hz).2) 58 (by decide) ?_
 refine zR X4 hx d58 rfl rfl 59 rfl ?_
 refine zP X4 hx hZ hown (tw hw 139 rfl) e4 p_Fld_u_intLen d59 62 rfl fun T6 X6 e6 => ?_
 refine zK X6 hx d62 1 rfl 63 rfl ?_
 refine zq 64 [.int 0] (fun t k => XS.isub X6.here hx rfl d63 rfl k) ?_
 refine zI X6 hx d64 rfl 65 rfl ?_
 refine zq 66 [.int 0] (fun t k => XS.isub X6.here hx rfl d65 rfl k) ?_
 refine zK X6 hx d66 5 rfl 67 rfl ?_
 refine zq 68 [.int ((0 : Int32) <<< ((5 : Int32) &&& 31))] (fun t k => XS.ishl X6.here hx rfl d67 rfl k) ?_
 have rw7 : ((0 : Int32) <<< ((5 : Int32) &&& 31)) = (0 : Int32) := (by decide)
 rw [rw7]
 refine zI X6 hx d68 rfl 69 rfl ?_
 refine zCS X6 hx hZ hml hown (tw hw 220 rfl) (tw hw 64 rfl) (tw hw 56 rfl) (tw hw 65 rfl) (rmNtz l Z a0 hw [] x h0 n0 Z0 hz) 1 (by decide) [.int 0] rfl (lenOf pd_0 rfl) rfl (Nat.le_of_eq rfl) e6 d69 72 rfl fun T8 L8 v8 X8 ⟨Lc8, hQ8, l8⟩ => ?_
 obtain ⟨z_8, rfl, Nq8, eh8, f8_0⟩ := hQ8
 have N8 := own_frApp N0 Nq8 l8
 refine zx [.int z_8, .int 0] rfl ?_
 refine zq 73 [.int ((0 : Int32) + z_8)] (fun t k => XS.iadd X8.here hx rfl d72 rfl k) ?_
 exact own_finI X8 hx hlk (t := .int) hre (by simp) rfl d73 eh8 ⟨((0 : Int32) + z_8), rfl, N8, rfl, (by rw [Int32.zero_add]; exact f8_0)⟩ (by decide) (by decide)
def QrmGls2 (Z : State) (u : Addr) (ua : Addr) (k : ClassId) (x : Int32) (y : Int32) (h0 : Heap) (n0 : Nat) (v : Option Value) (h : Heap) (L : List Loc) : Prop := ∃ z : Int32, v = some (.int z) ∧ Fr n0 L ∧ h = h0 ∧ (Gz x y z)
abbrev RrmGls2 : Room := { frames := 1, cells := 0, slots := 0, locals := 14 }
theorem rmGls2 (l : Launch) (Z : State) (a0 : Array Value) (hw : ∀ d ∈ tables_1, d.before a0 Z = true) (ws : List Jvm.Cond) (u : Addr) (ua : Addr) (k : ClassId) (x : Int32) (y : Int32) (h0 : Heap) (n0 : Nat) (Z0 : n0 ≤ h0.size)  (p_Exa_u : Exa Z h0 u "java/math/MutableBigInteger") (p_Fld_u_value : Fld Z h0 u "java/math/MutableBigInteger" "value" "[I" (.ref ua)) (p_Fld_u_intLen : Fld Z h0 u "java/math/MutableBigInteger" "intLen" "I" (.int (2 : Int32))) (p_Fld_u_offset : Fld Z h0 u "java/math/MutableBigInteger" "offset" "I" (.int (0 : Int32))) (p_Arv_ua : Arv Z h0 ua k .int (2 : Int32) [(.int x), (.int y)] (.int (0 : Int32))) (hz : ¬ x = (0 : Int32)) : Mf l Z Nm3 jdk_2101_method_18_code 3 (Option.some Jvm.ClassFile.FieldType.int) ws RrmGls2 #[(.ref u)] h0 (QrmGls2 Z u ua k x y h0 n0) := by
 refine own_entry (plainFor_of_name pn_java_math_MutableBigInteger) #[rv u, .unset, .unset] (fun _ => rfl) fun p e s m below meth c s₁ hx hby hml hown hnm hlk hre hZ X0 e0 => ?_
 have N0 := Fr.nil n0
 obtain ⟨d0, d1, d4, d9, d10, d13, d14, d15, d16, d17, d20, d21, d24, d25, d26, d29, d30, d31, d34, d37, d40, d41, d44, d45, d46, d49, d50, d51, d52, d53, d58, d59, d62, d63, d64, d65, d66, d67, d68, d69, d72, d73, -⟩ := D_3 hby
 refine zR X0 hx d0 rfl rfl 1 rfl ?_
 refine zP X0 hx hZ hown (tw hw 139 rfl) e0 p_Fld_u_intLen d1 4 rfl fun T1 X1 e1 => ?_
 refine zY X1 hx d4 ((if0 _ _).trans (feq (by decide : ¬ ((2 : Int32) = (0 : Int32)))).2) 9 (by decide) ?_
 refine zR X1 hx d9 rfl rfl 10 rfl ?_
 refine zP X1 hx hZ hown (tw hw 139 rfl) e1 p_Fld_u_intLen d10 13 rfl fun T2 X2 e2 => ?_
 refine zK X2 hx d13 1 rfl 14 rfl ?_
 refine zq 15 [.int 1] (fun t k => XS.isub X2.here hx rfl d14 rfl k) ?_
 refine zl 16 _ [] (fun t k => XS.istoreN X2.here hx rfl d15 rfl (l' := #[rv u, iv 1, .unset]) rfl k) ?_
 refine zI X2 hx d16 rfl 17 rfl ?_
 refine zN X2 hx d17 ((if0 _ _).trans (tlt (by decide : ((0 : Int32) < (1 : Int32)))).2.2.2) 20 rfl ?_
 refine zR X2 hx d20 rfl rfl 21 rfl ?_
 refine zP X2 hx hZ hown (tw hw 137 rfl) e2 p_Fld_u_value d21 24 rfl fun T3 X3 e3 => ?_
 refine zI X3 hx d24 rfl 25 rfl ?_
 refine zR X3 hx d25 rfl rfl 26 rfl ?_
 refine zP X3 hx hZ hown (tw hw 135 rfl) e3 p_Fld_u_offset d26 29 rfl fun T4 X4 e4 => ?_
 refine zq 30 [.int 1, .ref ua] (fun t k => XS.iadd X4.here hx rfl d29 rfl k) ?_
 refine zIa X4 hx hZ e4 p_Arv_ua (by decide) rfl d30 31 rfl ?_
 by_cases c6 : y = (0 : Int32)
 ·refine zN X4 hx d31 ((if0 _ _).trans (teq c6).2) 34 rfl ?_
  refine zl 37 _ [] (fun t k => own_iinc X4.here hx rfl (q := (-1 : Int32)) (by decide) (l' := #[.val (.ref u), .val (.int ((1 : Int32) + (-1 : Int32))), .unset]) d34 rfl rfl k) ?_
  have rw7 : ((1 : Int32) + (-1 : Int32)) = (0 : Int32) := (by decide)
  rw [rw7]
  refine zG X4 hx d37 16 (by decide) ?_
  refine zI X4 hx d16 rfl 17 rfl ?_
  refine zY X4 hx d17 ((if0 _ _).trans (flt (by decide : ¬ ((0 : Int32) < (0 : Int32)))).2.2.2) 40 (by decide) ?_
  refine zR X4 hx d40 rfl rfl 41 rfl ?_
  refine zP X4 hx hZ hown (tw hw 137 rfl) e4 p_Fld_u_value d41 44 rfl fun T8 X8 e8 => ?_
  refine zI X8 hx d44 rfl 45 rfl ?_
  refine zR X8 hx d45 rfl rfl 46 rfl ?_
  refine zP X8 hx hZ hown (tw hw 135 rfl) e8 p_Fld_u_offset d46 49 rfl fun T9 X9 e9 => ?_
  refine zq 50 [.int 0, .ref ua] (fun t k => XS.iadd X9.here hx rfl d49 rfl k) ?_
  refine zIa X9 hx hZ e9 p_Arv_ua (by decide) rfl d50 51 rfl ?_
  refine zl 52 _ [] (fun t k => XS.istoreN X9.here hx rfl d51 rfl (l' := #[rv u, iv 0, iv x]) rfl k) ?_
  refine zI X9 hx d52 rfl 53 rfl ?_
  refine zY X9 hx d53 ((if0 _ _).trans (feq hz).2) 58 (by decide) ?_
  refine zR X9 hx d58 rfl rfl 59 rfl ?_
  refine zP X9 hx hZ hown (tw hw 139 rfl) e9 p_Fld_u_intLen d59 62 rfl fun T11 X11 e11 => ?_
  refine zK X11 hx d62 1 rfl 63 rfl ?_
  refine zq 64 [.int 1] (fun t k => XS.isub X11.here hx rfl d63 rfl k) ?_
  refine zI X11 hx d64 rfl 65 rfl ?_
  refine zq 66 [.int 1] (fun t k => XS.isub X11.here hx rfl d65 rfl k) ?_
  refine zK X11 hx d66 5 rfl 67 rfl ?_
  refine zq 68 [.int ((1 : Int32) <<< ((5 : Int32) &&& 31))] (fun t k => XS.ishl X11.here hx rfl d67 rfl k) ?_
  have rw12 : ((1 : Int32) <<< ((5 : Int32) &&& 31)) = (32 : Int32) := (by decide)
  rw [rw12]
  refine zI X11 hx d68 rfl 69 rfl ?_
  refine zCS X11 hx hZ hml hown (tw hw 220 rfl) (tw hw 64 rfl) (tw hw 56 rfl) (tw hw 65 rfl) (rmNtz l Z a0 hw [] x h0 n0 Z0 hz) 1 (by decide) [.int 32] rfl (lenOf pd_0 rfl) rfl (Nat.le_of_eq rfl) e11 d69 72 rfl fun T13 L13 v13 X13 ⟨Lc13, hQ13, l13⟩ => ?_
  obtain ⟨z_13, rfl, Nq13, eh13, f13_0⟩ := hQ13
  have N13 := own_frApp N0 Nq13 l13
  refine zx [.int z_13, .int 32] rfl ?_
  refine zq 73 [.int ((32 : Int32) + z_13)] (fun t k => XS.iadd X13.here hx rfl d72 rfl k) ?_
  exact own_finI X13 hx hlk (t := .int) hre (by simp) rfl d73 eh13 ⟨((32 : Int32) + z_13), rfl, N13, rfl, (Or.inr ⟨c6, z_13, rfl, f13_0⟩)⟩ (by decide) (by decide)
 ·refine zY X4 hx d31 ((if0 _ _).trans (feq c6).2) 40 (by decide) ?_
  refine zR X4 hx d40 rfl rfl 41 rfl ?_
  refine zP X4 hx hZ hown (tw hw 137 rfl) e4 p_Fld_u_value d41 44 rfl fun T14 X14 e14 => ?_
  refine zI X14 hx d44 rfl 45 rfl ?_
  refine zR X14 hx d45 rfl rfl 46 rfl ?_
  refine zP X14 hx hZ hown (tw hw 135 rfl) e14 p_Fld_u_offset d46 49 rfl fun T15 X15 e15 => ?_
  refine zq 50 [.int 1, .ref ua] (fun t k => XS.iadd X15.here hx rfl d49 rfl k) ?_
  refine zIa X15 hx hZ e15 p_Arv_ua (by decide) rfl d50 51 rfl ?_
  refine zl 52 _ [] (fun t k => XS.istoreN X15.here hx rfl d51 rfl (l' := #[rv u, iv 1, iv y]) rfl k) ?_
  refine zI X15 hx d52 rfl 53 rfl ?_
  refine zY X15 hx d53 ((if0 _ _).trans (feq c6).2) 58 (by decide) ?_
  refine zR X15 hx d58 rfl rfl 59 rfl ?_
  refine zP X15 hx hZ hown (tw hw 139 rfl) e15 p_Fld_u_intLen d59 62 rfl fun T17 X17 e17 => ?_
  refine zK X17 hx d62 1 rfl 63 rfl ?_
  refine zq 64 [.int 1] (fun t k => XS.isub X17.here hx rfl d63 rfl k) ?_
  refine zI X17 hx d64 rfl 65 rfl ?_
  refine zq 66 [.int 0] (fun t k => XS.isub X17.here hx rfl d65 rfl k) ?_
  refine zK X17 hx d66 5 rfl 67 rfl ?_
  refine zq 68 [.int ((0 : Int32) <<< ((5 : Int32) &&& 31))] (fun t k => XS.ishl X17.here hx rfl d67 rfl k) ?_
  have rw18 : ((0 : Int32) <<< ((5 : Int32) &&& 31)) = (0 : Int32) := (by decide)
  rw [rw18]
  refine zI X17 hx d68 rfl 69 rfl ?_
  refine zCS X17 hx hZ hml hown (tw hw 220 rfl) (tw hw 64 rfl) (tw hw 56 rfl) (tw hw 65 rfl) (rmNtz l Z a0 hw [] y h0 n0 Z0 c6) 1 (by decide) [.int 0] rfl (lenOf pd_0 rfl) rfl (Nat.le_of_eq rfl) e17 d69 72 rfl fun T19 L19 v19 X19 ⟨Lc19, hQ19, l19⟩ => ?_
  obtain ⟨z_19, rfl, Nq19, eh19, f19_0⟩ := hQ19
  have N19 := own_frApp N0 Nq19 l19
  refine zx [.int z_19, .int 0] rfl ?_
  refine zq 73 [.int ((0 : Int32) + z_19)] (fun t k => XS.iadd X19.here hx rfl d72 rfl k) ?_
  exact own_finI X19 hx hlk (t := .int) hre (by simp) rfl d73 eh19 ⟨((0 : Int32) + z_19), rfl, N19, rfl, (Or.inl ⟨c6, by rw [Int32.zero_add]; exact f19_0⟩)⟩ (by decide) (by decide)
def QrmPr1 (Z : State) (u : Addr) (ua : Addr) (k : ClassId) (x : Int32) (p1 : Int32) (h0 : Heap) (n0 : Nat) (v : Option Value) (h : Heap) (L : List Loc) : Prop := v = none ∧ Fr n0 L ∧ Keep h0 h [ua] ∧ (Arv Z h ua k .int (1 : Int32) [(.int ((x.toUInt32 >>> (p1 &&& 31).toUInt32).toInt32))] (.int (0 : Int32)))
abbrev RrmPr1 : Room := { frames := 0, cells := 0, slots := 0, locals := 0 }
theorem rmPr1 (l : Launch) (Z : State) (a0 : Array Value) (hw : ∀ d ∈ tables_1, d.before a0 Z = true) (ws : List Jvm.Cond) (u : Addr) (ua : Addr) (k : ClassId) (x : Int32) (p1 : Int32) (h0 : Heap) (n0 : Nat) (Z0 : n0 ≤ h0.size)  (p_Exa_u : Exa Z h0 u "java/math/MutableBigInteger") (p_Fld_u_value : Fld Z h0 u "java/math/MutableBigInteger" "value" "[I" (.ref ua)) (p_Fld_u_intLen : Fld Z h0 u "java/math/MutableBigInteger" "intLen" "I" (.int (1 : Int32))) (p_Fld_u_offset : Fld Z h0 u "java/math/MutableBigInteger" "offset" "I" (.int (0 : Int32))) (p_Arv_ua : Arv Z h0 ua k .int (1 : Int32) [(.int x)] (.int (0 : Int32))) (ge2 : n0 ≤ ua) (ne1 : ua ≠ u) : Mf l Z Nm4 jdk_2101_method_41_code 7 (Option.none : Option Jvm.ClassFile.FieldType) ws RrmPr1 #[(.ref u), (.int p1)] h0 (QrmPr1 Z u ua k x p1 h0 n0) := by
 refine own_entry (plainFor_of_name pn_java_math_MutableBigInteger) #[rv u, iv p1, .unset, .unset, .unset, .unset, .unset] (fun _ => rfl) fun p e s m below meth c s₁ hx hby hml hown hnm hlk hre hZ X0 e0 => ?_
 have N0 := Fr.nil n0
 obtain ⟨d0, d1, d4, d5, d7, d8, d9, d10, d11, d14, d15, d18, d19, d20, d21, d23, d24, d26, d27, d29, d31, d32, d35, -, -, -, -, -, -, -, -, -, -, -, -, -, -, -, -, -, -, -, -, d69, d70, d71, d74, d75, d76, d77, d78, d79, -⟩ := D_4 hby
 refine zR X0 hx d0 rfl rfl 1 rfl ?_
 refine zP X0 hx hZ hown (tw hw 137 rfl) e0 p_Fld_u_value d1 4 rfl fun T1 X1 e1 => ?_
 refine zl 5 _ [] (fun t k => XS.astoreN X1.here hx rfl d4 rfl rfl (l' := #[rv u, iv p1, rv ua, .unset, .unset, .unset, .unset]) rfl k) ?_
 refine zq 7 [.int 32] (fun t k => XS.bipush X1.here hx rfl d5 k) ?_
 refine zI X1 hx d7 rfl 8 rfl ?_
 refine zq 9 [.int ((32 : Int32) - p1)] (fun t k => XS.isub X1.here hx rfl d8 rfl k) ?_
 refine zl 10 _ [] (fun t k => XS.istoreN X1.here hx rfl d9 rfl (l' := #[rv u, iv p1, rv ua, iv ((32 : Int32) - p1), .unset, .unset, .unset]) rfl k) ?_
 refine zR X1 hx d10 rfl rfl 11 rfl ?_
 refine zP X1 hx hZ hown (tw hw 135 rfl) e1 p_Fld_u_offset d11 14 rfl fun T2 X2 e2 => ?_
 refine zR X2 hx d14 rfl rfl 15 rfl ?_
 refine zP X2 hx hZ hown (tw hw 139 rfl) e2 p_Fld_u_intLen d15 18 rfl fun T3 X3 e3 => ?_
 refine zq 19 [.int 1] (fun t k => XS.iadd X3.here hx rfl d18 rfl k) ?_
 refine zK X3 hx d19 1 rfl 20 rfl ?_
 refine zq 21 [.int 0] (fun t k => XS.isub X3.here hx rfl d20 rfl k) ?_
 refine zl 23 _ [] (fun t k => XS.istore X3.here hx rfl d21 rfl (l' := #[rv u, iv p1, rv ua, iv ((32 : Int32) - p1), iv 0, .unset, .unset]) rfl k) ?_
 refine zR X3 hx d23 rfl rfl 24 rfl ?_
 refine zI2 X3 hx d24 rfl 26 rfl ?_
 refine zIa X3 hx hZ e3 p_Arv_ua (by decide) rfl d26 27 rfl ?_
 refine zl 29 _ [] (fun t k => XS.istore X3.here hx rfl d27 rfl (l' := #[rv u, iv p1, rv ua, iv ((32 : Int32) - p1), iv 0, iv x, .unset]) rfl k) ?_
 refine zI2 X3 hx d29 rfl 31 rfl ?_
 refine zR X3 hx d31 rfl rfl 32 rfl ?_
 refine zP X3 hx hZ hown (tw hw 135 rfl) e3 p_Fld_u_offset d32 35 rfl fun T5 X5 e5 => ?_
 refine zCY X5 hx d35 (flt (by decide : ¬ ((0 : Int32) < (0 : Int32)))).2.2.2 69 (by decide) ?_
 refine zR X5 hx d69 rfl rfl 70 rfl ?_
 refine zR X5 hx d70 rfl rfl 71 rfl ?_
 refine zP X5 hx hZ hown (tw hw 135 rfl) e5 p_Fld_u_offset d71 74 rfl fun T6 X6 e6 => ?_
 refine zq 75 [.int 0, .ref ua, .int 0, .ref ua] (fun t k => XT.dup2 X6.here hx rfl d74 rfl rfl rfl k) ?_
 refine zIa X6 hx hZ e6 p_Arv_ua (by decide) rfl d75 76 rfl ?_
 refine zI X6 hx d76 rfl 77 rfl ?_
 refine zq 78 [.int ((x.toUInt32 >>> (p1 &&& 31).toUInt32).toInt32), .int 0, .ref ua] (fun t k => XS.iushr X6.here hx rfl d77 rfl k) ?_
 obtain ⟨cl8, Ar8, q8, S8, M8, H8, Gx8⟩ := id p_Arv_ua
 obtain ⟨T9, h9, X9, e9, W9, st9⟩ := stI X6 hx hZ e6 Ar8 (j := (0 : Int32)) (inb_of S8 ⟨by decide, by decide⟩) (g := (mkF m 78 #[rv u, iv p1, rv ua, iv ((32 : Int32) - p1), iv 0, iv x, .unset] [.int ((x.toUInt32 >>> (p1 &&& 31).toUInt32).toInt32), .int 0, .ref ua])) rfl rfl d78
 have N9 := Fr.snoc X9 N0 ge2
 have V9 : Arv Z h9 ua k .int (1 : Int32) [(.int ((x.toUInt32 >>> (p1 &&& 31).toUInt32).toInt32))] (.int (0 : Int32)) := Arv.set Ar8 q8 S8 M8 H8 Gx8 rfl W9 0 rfl (Nat.le_of_ble_eq_true rfl)
 refine zt 79 [] st9 ?_
 exact own_finV X9 hx hlk hre d79 e9 (K := _) ⟨rfl, N9, ((Keep.refl h0 [ua]).wr W9 (Or.inl (List.mem_of_getElem? (i := 0) rfl))), V9⟩ (by decide) (by decide)
def QrmPr1b (Z : State) (u : Addr) (ua : Addr) (k : ClassId) (x : Int32) (y : Int32) (p1 : Int32) (h0 : Heap) (n0 : Nat) (v : Option Value) (h : Heap) (L : List Loc) : Prop := v = none ∧ Fr n0 L ∧ Keep h0 h [ua] ∧ (Arv Z h ua k .int (2 : Int32) [(.int ((x.toUInt32 >>> (p1 &&& 31).toUInt32).toInt32)), (.int y)] (.int (0 : Int32)))
abbrev RrmPr1b : Room := { frames := 0, cells := 0, slots := 0, locals := 0 }
theorem rmPr1b (l : Launch) (Z : State) (a0 : Array Value) (hw : ∀ d ∈ tables_1, d.before a0 Z = true) (ws : List Jvm.Cond) (u : Addr) (ua : Addr) (k : ClassId) (x : Int32) (y : Int32) (p1 : Int32) (h0 : Heap) (n0 : Nat) (Z0 : n0 ≤ h0.size)  (p_Exa_u : Exa Z h0 u "java/math/MutableBigInteger") (p_Fld_u_value : Fld Z h0 u "java/math/MutableBigInteger" "value" "[I" (.ref ua)) (p_Fld_u_intLen : Fld Z h0 u "java/math/MutableBigInteger" "intLen" "I" (.int (1 : Int32))) (p_Fld_u_offset : Fld Z h0 u "java/math/MutableBigInteger" "offset" "I" (.int (0 : Int32))) (p_Arv_ua : Arv Z h0 ua k .int (2 : Int32) [(.int x), (.int y)] (.int (0 : Int32))) (ge2 : n0 ≤ ua) (ne1 : ua ≠ u) : Mf l Z Nm4 jdk_2101_method_41_code 7 (Option.none : Option Jvm.ClassFile.FieldType) ws RrmPr1b #[(.ref u), (.int p1)] h0 (QrmPr1b Z u ua k x y p1 h0 n0) := by
 refine own_entry (plainFor_of_name pn_java_math_MutableBigInteger) #[rv u, iv p1, .unset, .unset, .unset, .unset, .unset] (fun _ => rfl) fun p e s m below meth c s₁ hx hby hml hown hnm hlk hre hZ X0 e0 => ?_
 have N0 := Fr.nil n0
 obtain ⟨d0, d1, d4, d5, d7, d8, d9, d10, d11, d14, d15, d18, d19, d20, d21, d23, d24, d26, d27, d29, d31, d32, d35, -, -, -, -, -, -, -, -, -, -, -, -, -, -, -, -, -, -, -, -, d69, d70, d71, d74, d75, d76, d77, d78, d79, -⟩ := D_4 hby
 refine zR X0 hx d0 rfl rfl 1 rfl ?_
 refine zP X0 hx hZ hown (tw hw 137 rfl) e0 p_Fld_u_value d1 4 rfl fun T1 X1 e1 => ?_
 refine zl 5 _ [] (fun t k => XS.astoreN X1.here hx rfl d4 rfl rfl (l' := #[rv u, iv p1, rv ua, .unset, .unset, .unset, .unset]) rfl k) ?_
 refine zq 7 [.int 32] (fun t k => XS.bipush X1.here hx rfl d5 k) ?_
 refine zI X1 hx d7 rfl 8 rfl ?_
 refine zq 9 [.int ((32 : Int32) - p1)] (fun t k => XS.isub X1.here hx rfl d8 rfl k) ?_
 refine zl 10 _ [] (fun t k => XS.istoreN X1.here hx rfl d9 rfl (l' := #[rv u, iv p1, rv ua, iv ((32 : Int32) - p1), .unset, .unset, .unset]) rfl k) ?_
 refine zR X1 hx d10 rfl rfl 11 rfl ?_
 refine zP X1 hx hZ hown (tw hw 135 rfl) e1 p_Fld_u_offset d11 14 rfl fun T2 X2 e2 => ?_
 refine zR X2 hx d14 rfl rfl 15 rfl ?_
 refine zP X2 hx hZ hown (tw hw 139 rfl) e2 p_Fld_u_intLen d15 18 rfl fun T3 X3 e3 => ?_
 refine zq 19 [.int 1] (fun t k => XS.iadd X3.here hx rfl d18 rfl k) ?_
 refine zK X3 hx d19 1 rfl 20 rfl ?_
 refine zq 21 [.int 0] (fun t k => XS.isub X3.here hx rfl d20 rfl k) ?_
 refine zl 23 _ [] (fun t k => XS.istore X3.here hx rfl d21 rfl (l' := #[rv u, iv p1, rv ua, iv ((32 : Int32) - p1), iv 0, .unset, .unset]) rfl k) ?_
 refine zR X3 hx d23 rfl rfl 24 rfl ?_
 refine zI2 X3 hx d24 rfl 26 rfl ?_
 refine zIa X3 hx hZ e3 p_Arv_ua (by decide) rfl d26 27 rfl ?_
 refine zl 29 _ [] (fun t k => XS.istore X3.here hx rfl d27 rfl (l' := #[rv u, iv p1, rv ua, iv ((32 : Int32) - p1), iv 0, iv x, .unset]) rfl k) ?_
 refine zI2 X3 hx d29 rfl 31 rfl ?_
 refine zR X3 hx d31 rfl rfl 32 rfl ?_
 refine zP X3 hx hZ hown (tw hw 135 rfl) e3 p_Fld_u_offset d32 35 rfl fun T5 X5 e5 => ?_
 refine zCY X5 hx d35 (flt (by decide : ¬ ((0 : Int32) < (0 : Int32)))).2.2.2 69 (by decide) ?_
 refine zR X5 hx d69 rfl rfl 70 rfl ?_
 refine zR X5 hx d70 rfl rfl 71 rfl ?_
 refine zP X5 hx hZ hown (tw hw 135 rfl) e5 p_Fld_u_offset d71 74 rfl fun T6 X6 e6 => ?_
 refine zq 75 [.int 0, .ref ua, .int 0, .ref ua] (fun t k => XT.dup2 X6.here hx rfl d74 rfl rfl rfl k) ?_
 refine zIa X6 hx hZ e6 p_Arv_ua (by decide) rfl d75 76 rfl ?_
 refine zI X6 hx d76 rfl 77 rfl ?_
 refine zq 78 [.int ((x.toUInt32 >>> (p1 &&& 31).toUInt32).toInt32), .int 0, .ref ua] (fun t k => XS.iushr X6.here hx rfl d77 rfl k) ?_
 obtain ⟨cl8, Ar8, q8, S8, M8, H8, Gx8⟩ := id p_Arv_ua
 obtain ⟨T9, h9, X9, e9, W9, st9⟩ := stI X6 hx hZ e6 Ar8 (j := (0 : Int32)) (inb_of S8 ⟨by decide, by decide⟩) (g := (mkF m 78 #[rv u, iv p1, rv ua, iv ((32 : Int32) - p1), iv 0, iv x, .unset] [.int ((x.toUInt32 >>> (p1 &&& 31).toUInt32).toInt32), .int 0, .ref ua])) rfl rfl d78
 have N9 := Fr.snoc X9 N0 ge2
 have V9 : Arv Z h9 ua k .int (2 : Int32) [(.int ((x.toUInt32 >>> (p1 &&& 31).toUInt32).toInt32)), (.int y)] (.int (0 : Int32)) := Arv.set Ar8 q8 S8 M8 H8 Gx8 rfl W9 0 rfl (Nat.le_of_ble_eq_true rfl)
 refine zt 79 [] st9 ?_
 exact own_finV X9 hx hlk hre d79 e9 (K := _) ⟨rfl, N9, ((Keep.refl h0 [ua]).wr W9 (Or.inl (List.mem_of_getElem? (i := 0) rfl))), V9⟩ (by decide) (by decide)
def QrmPr2 (Z : State) (u : Addr) (ua : Addr) (k : ClassId) (x : Int32) (y : Int32) (p1 : Int32) (h0 : Heap) (n0 : Nat) (v : Option Value) (h : Heap) (L : List Loc) : Prop := v = none ∧ Fr n0 L ∧ Keep h0 h [ua] ∧ (Arv Z h ua k .int (2 : Int32) [(.int ((x.toUInt32 >>> (p1 &&& 31).toUInt32).toInt32)), (.int ((x <<< (((32 : Int32) - p1) &&& 31)) ||| ((y.toUInt32 >>> (p1 &&& 31).toUInt32).toInt32)))] (.int (0 : Int32)))
abbrev RrmPr2 : Room := { frames := 0, cells := 0, slots := 0, locals := 0 }
theorem rmPr2 (l : Launch) (Z : State) (a0 : Array Value) (hw : ∀ d ∈ tables_1, d.before a0 Z = true) (ws : List Jvm.Cond) (u : Addr) (ua : Addr) (k : ClassId) (x : Int32) (y : Int32) (p1 : Int32) (h0 : Heap) (n0 : Nat) (Z0 : n0 ≤ h0.size)  (p_Exa_u : Exa Z h0 u "java/math/MutableBigInteger") (p_Fld_u_value : Fld Z h0 u "java/math/MutableBigInteger" "value" "[I" (.ref ua)) (p_Fld_u_intLen : Fld Z h0 u "java/math/MutableBigInteger" "intLen" "I" (.int (2 : Int32))) (p_Fld_u_offset : Fld Z h0 u "java/math/MutableBigInteger" "offset" "I" (.int (0 : Int32))) (p_Arv_ua : Arv Z h0 ua k .int (2 : Int32) [(.int x), (.int y)] (.int (0 : Int32))) (ge2 : n0 ≤ ua) (ne1 : ua ≠ u) : Mf l Z Nm4 jdk_2101_method_41_code 7 (Option.none : Option Jvm.ClassFile.FieldType) ws RrmPr2 #[(.ref u), (.int p1)] h0 (QrmPr2 Z u ua k x y p1 h0 n0) := by
 refine own_entry (plainFor_of_name pn_java_math_MutableBigInteger) #[rv u, iv p1, .unset, .unset, .unset, .unset, .unset] (fun _ => rfl) fun p e s m below meth c s₁ hx hby hml hown hnm hlk hre hZ X0 e0 => ?_
 have N0 := Fr.nil n0
 obtain ⟨d0, d1, d4, d5, d7, d8, d9, d10, d11, d14, d15, d18, d19, d20, d21, d23, d24, d26, d27, d29, d31, d32, d35, d38, d40, d42, d43, d45, d46, d47, d48, d50, d51, d53, d55, d56, d57, d59, d60, d61, d62, d63, d66, d69, d70, d71, d74, d75, d76, d77, d78, d79, -⟩ := D_4 hby
 refine zR X0 hx d0 rfl rfl 1 rfl ?_
 refine zP X0 hx hZ hown (tw hw 137 rfl) e0 p_Fld_u_value d1 4 rfl fun T1 X1 e1 => ?_
 refine zl 5 _ [] (fun t k => XS.astoreN X1.here hx rfl d4 rfl rfl (l' := #[rv u, iv p1, rv ua, .unset, .unset, .unset, .unset]) rfl k) ?_
 refine zq 7 [.int 32] (fun t k => XS.bipush X1.here hx rfl d5 k) ?_
 refine zI X1 hx d7 rfl 8 rfl ?_
 refine zq 9 [.int ((32 : Int32) - p1)] (fun t k => XS.isub X1.here hx rfl d8 rfl k) ?_
 refine zl 10 _ [] (fun t k => XS.istoreN X1.here hx rfl d9 rfl (l' := #[rv u, iv p1, rv ua, iv ((32 : Int32) - p1), .unset, .unset, .unset]) rfl k) ?_
 refine zR X1 hx d10 rfl rfl 11 rfl ?_
 refine zP X1 hx hZ hown (tw hw 135 rfl) e1 p_Fld_u_offset d11 14 rfl fun T2 X2 e2 => ?_
 refine zR X2 hx d14 rfl rfl 15 rfl ?_
 refine zP X2 hx hZ hown (tw hw 139 rfl) e2 p_Fld_u_intLen d15 18 rfl fun T3 X3 e3 => ?_
 refine zq 19 [.int 2] (fun t k => XS.iadd X3.here hx rfl d18 rfl k) ?_
 refine zK X3 hx d19 1 rfl 20 rfl ?_
 refine zq 21 [.int 1] (fun t k => XS.isub X3.here hx rfl d20 rfl k) ?_
 refine zl 23 _ [] (fun t k => XS.istore X3.here hx rfl d21 rfl (l' := #[rv u, iv p1, rv ua, iv ((32 : Int32) - p1), iv 1, .unset, .unset]) rfl k) ?_
 refine zR X3 hx d23 rfl rfl 24 rfl ?_
 refine zI2 X3 hx d24 rfl 26 rfl ?_
 refine zIa X3 hx hZ e3 p_Arv_ua (by decide) rfl d26 27 rfl ?_
 refine zl 29 _ [] (fun t k => XS.istore X3.here hx rfl d27 rfl (l' := #[rv u, iv p1, rv ua, iv ((32 : Int32) - p1), iv 1, iv y, .unset]) rfl k) ?_
 refine zI2 X3 hx d29 rfl 31 rfl ?_
 refine zR X3 hx d31 rfl rfl 32 rfl ?_
 refine zP X3 hx hZ hown (tw hw 135 rfl) e3 p_Fld_u_offset d32 35 rfl fun T5 X5 e5 => ?_
 refine zCN X5 hx d35 (tlt (by decide : ((0 : Int32) < (1 : Int32)))).2.2.2 38 rfl ?_
 refine zI2 X5 hx d38 rfl 40 rfl ?_
 refine zl 42 _ [] (fun t k => XS.istore X5.here hx rfl d40 rfl (l' := #[rv u, iv p1, rv ua, iv ((32 : Int32) - p1), iv 1, iv y, iv y]) rfl k) ?_
 refine zR X5 hx d42 rfl rfl 43 rfl ?_
 refine zI2 X5 hx d43 rfl 45 rfl ?_
 refine zK X5 hx d45 1 rfl 46 rfl ?_
 refine zq 47 [.int 0, .ref ua] (fun t k => XS.isub X5.here hx rfl d46 rfl k) ?_
 refine zIa X5 hx hZ e5 p_Arv_ua (by decide) rfl d47 48 rfl ?_
 refine zl 50 _ [] (fun t k => XS.istore X5.here hx rfl d48 rfl (l' := #[rv u, iv p1, rv ua, iv ((32 : Int32) - p1), iv 1, iv x, iv y]) rfl k) ?_
 refine zR X5 hx d50 rfl rfl 51 rfl ?_
 refine zI2 X5 hx d51 rfl 53 rfl ?_
 refine zI2 X5 hx d53 rfl 55 rfl ?_
 refine zI X5 hx d55 rfl 56 rfl ?_
 refine zq 57 [.int (x <<< (((32 : Int32) - p1) &&& 31)), .int 1, .ref ua] (fun t k => XS.ishl X5.here hx rfl d56 rfl k) ?_
 refine zI2 X5 hx d57 rfl 59 rfl ?_
 refine zI X5 hx d59 rfl 60 rfl ?_
 refine zq 61 [.int ((y.toUInt32 >>> (p1 &&& 31).toUInt32).toInt32), .int (x <<< (((32 : Int32) - p1) &&& 31)), .int 1, .ref ua] (fun t k => XS.iushr X5.here hx rfl d60 rfl k) ?_
 refine zq 62 [.int ((x <<< (((32 : Int32) - p1) &&& 31)) ||| ((y.toUInt32 >>> (p1 &&& 31).toUInt32).toInt32)), .int 1, .ref ua] (fun t k => XS.ior X5.here hx rfl d61 rfl k) ?_
 obtain ⟨cl7, Ar7, q7, S7, M7, H7, Gx7⟩ := id p_Arv_ua
 obtain ⟨T8, h8, X8, e8, W8, st8⟩ := stI X5 hx hZ e5 Ar7 (j := (1 : Int32)) (inb_of S7 ⟨by decide, by decide⟩) (g := (mkF m 62 #[rv u, iv p1, rv ua, iv ((32 : Int32) - p1), iv 1, iv x, iv y] [.int ((x <<< (((32 : Int32) - p1) &&& 31)) ||| ((y.toUInt32 >>> (p1 &&& 31).toUInt32).toInt32)), .int 1, .ref ua])) rfl rfl d62
 have N8 := Fr.snoc X8 N0 ge2
 have V8 : Arv Z h8 ua k .int (2 : Int32) [(.int x), (.int ((x <<< (((32 : Int32) - p1) &&& 31)) ||| ((y.toUInt32 >>> (p1 &&& 31).toUInt32).toInt32)))] (.int (0 : Int32)) := Arv.set Ar7 q7 S7 M7 H7 Gx7 rfl W8 1 rfl (Nat.le_of_ble_eq_true rfl)
 refine zt 63 [] st8 ?_
 refine zl 66 _ [] (fun t k => own_iinc X8.here hx rfl (q := (-1 : Int32)) (by decide) (l' := #[.val (.ref u), .val (.int p1), .val (.ref ua), .val (.int ((32 : Int32) - p1)), .val (.int ((1 : Int32) + (-1 : Int32))), .val (.int x), .val (.int y)]) d63 rfl rfl k) ?_
 have rw9 : ((1 : Int32) + (-1 : Int32)) = (0 : Int32) := (by decide)
 rw [rw9]
 refine zG X8 hx d66 29 (by decide) ?_
 refine zI2 X8 hx d29 rfl 31 rfl ?_
 refine zR X8 hx d31 rfl rfl 32 rfl ?_
 have F10 := (p_Fld_u_offset.other W8 (Or.inl (Ne.symm ne1)))
 refine zP X8 hx hZ hown (tw hw 135 rfl) e8 F10 d32 35 rfl fun T11 X11 e11 => ?_
 refine zCY X11 hx d35 (flt (by decide : ¬ ((0 : Int32) < (0 : Int32)))).2.2.2 69 (by decide) ?_
 refine zR X11 hx d69 rfl rfl 70 rfl ?_
 refine zR X11 hx d70 rfl rfl 71 rfl ?_
 refine zP X11 hx hZ hown (tw hw 135 rfl) e11 F10 d71 74 rfl fun T12 X12 e12 => ?_
 refine zq 75 [.int 0, .ref ua, .int 0, .ref ua] (fun t k => XT.dup2 X12.here hx rfl d74 rfl rfl rfl k) ?_
 refine zIa X12 hx hZ e12 V8 (by decide) rfl d75 76 rfl ?_
 refine zI X12 hx d76 rfl 77 rfl ?_
 refine zq 78 [.int ((x.toUInt32 >>> (p1 &&& 31).toUInt32).toInt32), .int 0, .ref ua] (fun t k => XS.iushr X12.here hx rfl d77 rfl k) ?_
 obtain ⟨cl14, Ar14, q14, S14, M14, H14, Gx14⟩ := id V8
 obtain ⟨T15, h15, X15, e15, W15, st15⟩ := stI X12 hx hZ e12 Ar14 (j := (0 : Int32)) (inb_of S14 ⟨by decide, by decide⟩) (g := (mkF m 78 #[rv u, iv p1, rv ua, iv ((32 : Int32) - p1), iv 0, iv x, iv y] [.int ((x.toUInt32 >>> (p1 &&& 31).toUInt32).toInt32), .int 0, .ref ua])) rfl rfl d78
 have N15 := Fr.snoc X15 N8 ge2
 have V15 : Arv Z h15 ua k .int (2 : Int32) [(.int ((x.toUInt32 >>> (p1 &&& 31).toUInt32).toInt32)), (.int ((x <<< (((32 : Int32) - p1) &&& 31)) ||| ((y.toUInt32 >>> (p1 &&& 31).toUInt32).toInt32)))] (.int (0 : Int32)) := Arv.set Ar14 q14 S14 M14 H14 Gx14 rfl W15 0 rfl (Nat.le_of_ble_eq_true rfl)
 refine zt 79 [] st15 ?_
 exact own_finV X15 hx hlk hre d79 e15 (K := _) ⟨rfl, N15, (((Keep.refl h0 [ua]).wr W8 (Or.inl (List.mem_of_getElem? (i := 0) rfl))).wr W15 (Or.inl (List.mem_of_getElem? (i := 0) rfl))), V15⟩ (by decide) (by decide)
def QrmPl2 (Z : State) (u : Addr) (ua : Addr) (k : ClassId) (x : Int32) (y : Int32) (p1 : Int32) (h0 : Heap) (n0 : Nat) (v : Option Value) (h : Heap) (L : List Loc) : Prop := v = none ∧ Fr n0 L ∧ Keep h0 h [ua] ∧ (Arv Z h ua k .int (2 : Int32) [(.int ((x <<< (p1 &&& 31)) ||| ((y.toUInt32 >>> (((32 : Int32) - p1) &&& 31).toUInt32).toInt32))), (.int (y <<< (p1 &&& 31)))] (.int (0 : Int32)))
abbrev RrmPl2 : Room := { frames := 0, cells := 0, slots := 0, locals := 0 }
theorem rmPl2 (l : Launch) (Z : State) (a0 : Array Value) (hw : ∀ d ∈ tables_1, d.before a0 Z = true) (ws : List Jvm.Cond) (u : Addr) (ua : Addr) (k : ClassId) (x : Int32) (y : Int32) (p1 : Int32) (h0 : Heap) (n0 : Nat) (Z0 : n0 ≤ h0.size)  (p_Exa_u : Exa Z h0 u "java/math/MutableBigInteger") (p_Fld_u_value : Fld Z h0 u "java/math/MutableBigInteger" "value" "[I" (.ref ua)) (p_Fld_u_intLen : Fld Z h0 u "java/math/MutableBigInteger" "intLen" "I" (.int (2 : Int32))) (p_Fld_u_offset : Fld Z h0 u "java/math/MutableBigInteger" "offset" "I" (.int (0 : Int32))) (p_Arv_ua : Arv Z h0 ua k .int (2 : Int32) [(.int x), (.int y)] (.int (0 : Int32))) (ge2 : n0 ≤ ua) (ne1 : ua ≠ u) : Mf l Z Nm5 jdk_2101_method_42_code 8 (Option.none : Option Jvm.ClassFile.FieldType) ws RrmPl2 #[(.ref u), (.int p1)] h0 (QrmPl2 Z u ua k x y p1 h0 n0) := by
 refine own_entry (plainFor_of_name pn_java_math_MutableBigInteger) #[rv u, iv p1, .unset, .unset, .unset, .unset, .unset, .unset] (fun _ => rfl) fun p e s m below meth c s₁ hx hby hml hown hnm hlk hre hZ X0 e0 => ?_
 have N0 := Fr.nil n0
 obtain ⟨d0, d1, d4, d5, d7, d8, d9, d10, d11, d14, d16, d17, d19, d20, d22, d24, d25, d28, d29, d30, d31, d33, d35, d37, d40, d42, d44, d45, d47, d48, d49, d50, d52, d53, d55, d57, d58, d59, d61, d62, d63, d64, d65, d68, d71, d72, d73, d76, d77, d80, d81, d82, d83, d84, d85, d86, d87, d88, -⟩ := D_5 hby
 refine zR X0 hx d0 rfl rfl 1 rfl ?_
 refine zP X0 hx hZ hown (tw hw 137 rfl) e0 p_Fld_u_value d1 4 rfl fun T1 X1 e1 => ?_
 refine zl 5 _ [] (fun t k => XS.astoreN X1.here hx rfl d4 rfl rfl (l' := #[rv u, iv p1, rv ua, .unset, .unset, .unset, .unset, .unset]) rfl k) ?_
 refine zq 7 [.int 32] (fun t k => XS.bipush X1.here hx rfl d5 k) ?_
 refine zI X1 hx d7 rfl 8 rfl ?_
 refine zq 9 [.int ((32 : Int32) - p1)] (fun t k => XS.isub X1.here hx rfl d8 rfl k) ?_
 refine zl 10 _ [] (fun t k => XS.istoreN X1.here hx rfl d9 rfl (l' := #[rv u, iv p1, rv ua, iv ((32 : Int32) - p1), .unset, .unset, .unset, .unset]) rfl k) ?_
 refine zR X1 hx d10 rfl rfl 11 rfl ?_
 refine zP X1 hx hZ hown (tw hw 135 rfl) e1 p_Fld_u_offset d11 14 rfl fun T2 X2 e2 => ?_
 refine zl 16 _ [] (fun t k => XS.istore X2.here hx rfl d14 rfl (l' := #[rv u, iv p1, rv ua, iv ((32 : Int32) - p1), iv 0, .unset, .unset, .unset]) rfl k) ?_
 refine zR X2 hx d16 rfl rfl 17 rfl ?_
 refine zI2 X2 hx d17 rfl 19 rfl ?_
 refine zIa X2 hx hZ e2 p_Arv_ua (by decide) rfl d19 20 rfl ?_
 refine zl 22 _ [] (fun t k => XS.istore X2.here hx rfl d20 rfl (l' := #[rv u, iv p1, rv ua, iv ((32 : Int32) - p1), iv 0, iv x, .unset, .unset]) rfl k) ?_
 refine zI2 X2 hx d22 rfl 24 rfl ?_
 refine zR X2 hx d24 rfl rfl 25 rfl ?_
 refine zP X2 hx hZ hown (tw hw 139 rfl) e2 p_Fld_u_intLen d25 28 rfl fun T4 X4 e4 => ?_
 refine zq 29 [.int 2] (fun t k => XS.iadd X4.here hx rfl d28 rfl k) ?_
 refine zK X4 hx d29 1 rfl 30 rfl ?_
 refine zq 31 [.int 1] (fun t k => XS.isub X4.here hx rfl d30 rfl k) ?_
 refine zl 33 _ [] (fun t k => XS.istore X4.here hx rfl d31 rfl (l' := #[rv u, iv p1, rv ua, iv ((32 : Int32) - p1), iv 0, iv x, iv 1, .unset]) rfl k) ?_
 refine zI2 X4 hx d33 rfl 35 rfl ?_
 refine zI2 X4 hx d35 rfl 37 rfl ?_
 refine zCN X4 hx d37 (tlt (by decide : ((0 : Int32) < (1 : Int32)))).2.1 40 rfl ?_
 refine zI2 X4 hx d40 rfl 42 rfl ?_
 refine zl 44 _ [] (fun t k => XS.istore X4.here hx rfl d42 rfl (l' := #[rv u, iv p1, rv ua, iv ((32 : Int32) - p1), iv 0, iv x, iv 1, iv x]) rfl k) ?_
 refine zR X4 hx d44 rfl rfl 45 rfl ?_
 refine zI2 X4 hx d45 rfl 47 rfl ?_
 refine zK X4 hx d47 1 rfl 48 rfl ?_
 refine zq 49 [.int 1, .ref ua] (fun t k => XS.iadd X4.here hx rfl d48 rfl k) ?_
 refine zIa X4 hx hZ e4 p_Arv_ua (by decide) rfl d49 50 rfl ?_
 refine zl 52 _ [] (fun t k => XS.istore X4.here hx rfl d50 rfl (l' := #[rv u, iv p1, rv ua, iv ((32 : Int32) - p1), iv 0, iv y, iv 1, iv x]) rfl k) ?_
 refine zR X4 hx d52 rfl rfl 53 rfl ?_
 refine zI2 X4 hx d53 rfl 55 rfl ?_
 refine zI2 X4 hx d55 rfl 57 rfl ?_
 refine zI X4 hx d57 rfl 58 rfl ?_
 refine zq 59 [.int (x <<< (p1 &&& 31)), .int 0, .ref ua] (fun t k => XS.ishl X4.here hx rfl d58 rfl k) ?_
 refine zI2 X4 hx d59 rfl 61 rfl ?_
 refine zI X4 hx d61 rfl 62 rfl ?_
 refine zq 63 [.int ((y.toUInt32 >>> (((32 : Int32) - p1) &&& 31).toUInt32).toInt32), .int (x <<< (p1 &&& 31)), .int 0, .ref ua] (fun t k => XS.iushr X4.here hx rfl d62 rfl k) ?_
 refine zq 64 [.int ((x <<< (p1 &&& 31)) ||| ((y.toUInt32 >>> (((32 : Int32) - p1) &&& 31).toUInt32).toInt32)), .int 0, .ref ua] (fun t k => XS.ior X4.here hx rfl d63 rfl k) ?_
 obtain ⟨cl6, Ar6, q6, S6, M6, H6, Gx6⟩ := id p_Arv_ua
 obtain ⟨T7, h7, X7, e7, W7, st7⟩ := stI X4 hx hZ e4 Ar6 (j := (0 : Int32)) (inb_of S6 ⟨by decide, by decide⟩) (g := (mkF m 64 #[rv u, iv p1, rv ua, iv ((32 : Int32) - p1), iv 0, iv y, iv 1, iv x] [.int ((x <<< (p1 &&& 31)) ||| ((y.toUInt32 >>> (((32 : Int32) - p1) &&& 31).toUInt32).toInt32)), .int 0, .ref ua])) rfl rfl d64
 have N7 := Fr.snoc X7 N0 ge2
 have V7 : Arv Z h7 ua k .int (2 : Int32) [(.int ((x <<< (p1 &&& 31)) ||| ((y.toUInt32 >>> (((32 : Int32) - p1) &&& 31).toUInt32).toInt32))), (.int y)] (.int (0 : Int32)) := Arv.set Ar6 q6 S6 M6 H6 Gx6 rfl W7 0 rfl (Nat.le_of_ble_eq_true rfl)
 refine zt 65 [] st7 ?_
 refine zl 68 _ [] (fun t k => own_iinc X7.here hx rfl (q := (1 : Int32)) (by decide) (l' := #[.val (.ref u), .val (.int p1), .val (.ref ua), .val (.int ((32 : Int32) - p1)), .val (.int ((0 : Int32) + (1 : Int32))), .val (.int y), .val (.int (1 : Int32)), .val (.int x)]) d65 rfl rfl k) ?_
 have rw8 : ((0 : Int32) + (1 : Int32)) = (1 : Int32) := (by decide)
 rw [rw8]
 refine zG X7 hx d68 33 (by decide) ?_
 refine zI2 X7 hx d33 rfl 35 rfl ?_
 refine zI2 X7 hx d35 rfl 37 rfl ?_
 refine zCY X7 hx d37 (flt (by decide : ¬ ((1 : Int32) < (1 : Int32)))).2.1 71 (by decide) ?_
 refine zR X7 hx d71 rfl rfl 72 rfl ?_
 refine zR X7 hx d72 rfl rfl 73 rfl ?_
 have F9 := (p_Fld_u_offset.other W7 (Or.inl (Ne.symm ne1)))
 refine zP X7 hx hZ hown (tw hw 135 rfl) e7 F9 d73 76 rfl fun T10 X10 e10 => ?_
 refine zR X10 hx d76 rfl rfl 77 rfl ?_
 have F11 := (p_Fld_u_intLen.other W7 (Or.inl (Ne.symm ne1)))
 refine zP X10 hx hZ hown (tw hw 139 rfl) e10 F11 d77 80 rfl fun T12 X12 e12 => ?_
 refine zq 81 [.int 2, .ref ua] (fun t k => XS.iadd X12.here hx rfl d80 rfl k) ?_
 refine zK X12 hx d81 1 rfl 82 rfl ?_
 refine zq 83 [.int 1, .ref ua] (fun t k => XS.isub X12.here hx rfl d82 rfl k) ?_
 refine zq 84 [.int 1, .ref ua, .int 1, .ref ua] (fun t k => XT.dup2 X12.here hx rfl d83 rfl rfl rfl k) ?_
 refine zIa X12 hx hZ e12 V7 (by decide) rfl d84 85 rfl ?_
 refine zI X12 hx d85 rfl 86 rfl ?_
 refine zq 87 [.int (y <<< (p1 &&& 31)), .int 1, .ref ua] (fun t k => XS.ishl X12.here hx rfl d86 rfl k) ?_
 obtain ⟨cl14, Ar14, q14, S14, M14, H14, Gx14⟩ := id V7
 obtain ⟨T15, h15, X15, e15, W15, st15⟩ := stI X12 hx hZ e12 Ar14 (j := (1 : Int32)) (inb_of S14 ⟨by decide, by decide⟩) (g := (mkF m 87 #[rv u, iv p1, rv ua, iv ((32 : Int32) - p1), iv 1, iv y, iv 1, iv x] [.int (y <<< (p1 &&& 31)), .int 1, .ref ua])) rfl rfl d87
 have N15 := Fr.snoc X15 N7 ge2
 have V15 : Arv Z h15 ua k .int (2 : Int32) [(.int ((x <<< (p1 &&& 31)) ||| ((y.toUInt32 >>> (((32 : Int32) - p1) &&& 31).toUInt32).toInt32))), (.int (y <<< (p1 &&& 31)))] (.int (0 : Int32)) := Arv.set Ar14 q14 S14 M14 H14 Gx14 rfl W15 1 rfl (Nat.le_of_ble_eq_true rfl)
 refine zt 88 [] st15 ?_
 exact own_finV X15 hx hlk hre d88 e15 (K := _) ⟨rfl, N15, (((Keep.refl h0 [ua]).wr W7 (Or.inl (List.mem_of_getElem? (i := 0) rfl))).wr W15 (Or.inl (List.mem_of_getElem? (i := 0) rfl))), V15⟩ (by decide) (by decide)
def QrmNorm2 (Z : State) (u : Addr) (ua : Addr) (k : ClassId) (x : Int32) (y : Int32) (h0 : Heap) (n0 : Nat) (v : Option Value) (h : Heap) (L : List Loc) : Prop := v = none ∧ Fr n0 L ∧ h = h0
abbrev RrmNorm2 : Room := { frames := 0, cells := 0, slots := 0, locals := 0 }
theorem rmNorm2 (l : Launch) (Z : State) (a0 : Array Value) (hw : ∀ d ∈ tables_1, d.before a0 Z = true) (ws : List Jvm.Cond) (u : Addr) (ua : Addr) (k : ClassId) (x : Int32) (y : Int32) (h0 : Heap) (n0 : Nat) (Z0 : n0 ≤ h0.size)  (p_Exa_u : Exa Z h0 u "java/math/MutableBigInteger") (p_Fld_u_value : Fld Z h0 u "java/math/MutableBigInteger" "value" "[I" (.ref ua)) (p_Fld_u_intLen : Fld Z h0 u "java/math/MutableBigInteger" "intLen" "I" (.int (2 : Int32))) (p_Fld_u_offset : Fld Z h0 u "java/math/MutableBigInteger" "offset" "I" (.int (0 : Int32))) (p_Arv_ua : Arv Z h0 ua k .int (2 : Int32) [(.int x), (.int y)] (.int (0 : Int32))) (hz : ¬ x = (0 : Int32)) : Mf l Z Nm6 jdk_2101_method_21_code 4 (Option.none : Option Jvm.ClassFile.FieldType) ws RrmNorm2 #[(.ref u)] h0 (QrmNorm2 Z u ua k x y h0 n0) := by
 refine own_entry (plainFor_of_name pn_java_math_MutableBigInteger) #[rv u, .unset, .unset, .unset] (fun _ => rfl) fun p e s m below meth c s₁ hx hby hml hown hnm hlk hre hZ X0 e0 => ?_
 have N0 := Fr.nil n0
 obtain ⟨d0, d1, d4, d13, d14, d17, d18, d19, d22, d23, d24, d27, -⟩ := D_6 hby
 refine zR X0 hx d0 rfl rfl 1 rfl ?_
 refine zP X0 hx hZ hown (tw hw 139 rfl) e0 p_Fld_u_intLen d1 4 rfl fun T1 X1 e1 => ?_
 refine zY X1 hx d4 ((if0 _ _).trans (feq (by decide : ¬ ((2 : Int32) = (0 : Int32)))).2) 13 (by decide) ?_
 refine zR X1 hx d13 rfl rfl 14 rfl ?_
 refine zP X1 hx hZ hown (tw hw 135 rfl) e1 p_Fld_u_offset d14 17 rfl fun T2 X2 e2 => ?_
 refine zl 18 _ [] (fun t k => XS.istoreN X2.here hx rfl d17 rfl (l' := #[rv u, iv 0, .unset, .unset]) rfl k) ?_
 refine zR X2 hx d18 rfl rfl 19 rfl ?_
 refine zP X2 hx hZ hown (tw hw 137 rfl) e2 p_Fld_u_value d19 22 rfl fun T3 X3 e3 => ?_
 refine zI X3 hx d22 rfl 23 rfl ?_
 refine zIa X3 hx hZ e3 p_Arv_ua (by decide) rfl d23 24 rfl ?_
 refine zN X3 hx d24 ((if0 _ _).trans (feq hz).1) 27 rfl ?_
 exact own_finV X3 hx hlk hre d27 e3 (K := _) ⟨rfl, N0, rfl⟩ (by decide) (by decide)
def QrmCmp21 (Z : State) (u : Addr) (ua : Addr) (q : Addr) (qa : Addr) (h0 : Heap) (n0 : Nat) (v : Option Value) (h : Heap) (L : List Loc) : Prop := v = some (.int (1 : Int32)) ∧ Fr n0 L ∧ h = h0
abbrev RrmCmp21 : Room := { frames := 0, cells := 0, slots := 0, locals := 0 }
theorem rmCmp21 (l : Launch) (Z : State) (a0 : Array Value) (hw : ∀ d ∈ tables_1, d.before a0 Z = true) (ws : List Jvm.Cond) (u : Addr) (ua : Addr) (q : Addr) (qa : Addr) (h0 : Heap) (n0 : Nat) (Z0 : n0 ≤ h0.size)  (p_Exa_u : Exa Z h0 u "java/math/MutableBigInteger") (p_Fld_u_value : Fld Z h0 u "java/math/MutableBigInteger" "value" "[I" (.ref ua)) (p_Fld_u_intLen : Fld Z h0 u "java/math/MutableBigInteger" "intLen" "I" (.int (2 : Int32))) (p_Fld_u_offset : Fld Z h0 u "java/math/MutableBigInteger" "offset" "I" (.int (0 : Int32))) (p_Exa_q : Exa Z h0 q "java/math/MutableBigInteger") (p_Fld_q_value : Fld Z h0 q "java/math/MutableBigInteger" "value" "[I" (.ref qa)) (p_Fld_q_intLen : Fld Z h0 q "java/math/MutableBigInteger" "intLen" "I" (.int (1 : Int32))) (p_Fld_q_offset : Fld Z h0 q "java/math/MutableBigInteger" "offset" "I" (.int (0 : Int32))) : Mf l Z Nm7 jdk_2101_method_15_code 8 (Option.some Jvm.ClassFile.FieldType.int) ws RrmCmp21 #[(.ref u), (.ref q)] h0 (QrmCmp21 Z u ua q qa h0 n0) := by
 refine own_entry (plainFor_of_name pn_java_math_MutableBigInteger) #[rv u, rv q, .unset, .unset, .unset, .unset, .unset, .unset] (fun _ => rfl) fun p e s m below meth c s₁ hx hby hml hown hnm hlk hre hZ X0 e0 => ?_
 have N0 := Fr.nil n0
 obtain ⟨d0, d1, d4, d5, d6, d9, d10, d15, d16, d19, d20, d23, d24, -⟩ := D_7 hby
 refine zR X0 hx d0 rfl rfl 1 rfl ?_
 refine zP X0 hx hZ hown (tw hw 139 rfl) e0 p_Fld_q_intLen d1 4 rfl fun T1 X1 e1 => ?_
 refine zl 5 _ [] (fun t k => XS.istoreN X1.here hx rfl d4 rfl (l' := #[rv u, rv q, iv 1, .unset, .unset, .unset, .unset, .unset]) rfl k) ?_
 refine zR X1 hx d5 rfl rfl 6 rfl ?_
 refine zP X1 hx hZ hown (tw hw 139 rfl) e1 p_Fld_u_intLen d6 9 rfl fun T2 X2 e2 => ?_
 refine zI X2 hx d9 rfl 10 rfl ?_
 refine zCY X2 hx d10 (flt (by decide : ¬ ((2 : Int32) < (1 : Int32)))).2.1 15 (by decide) ?_
 refine zR X2 hx d15 rfl rfl 16 rfl ?_
 refine zP X2 hx hZ hown (tw hw 139 rfl) e2 p_Fld_u_intLen d16 19 rfl fun T3 X3 e3 => ?_
 refine zI X3 hx d19 rfl 20 rfl ?_
 refine zCN X3 hx d20 (tlt (by decide : ((1 : Int32) < (2 : Int32)))).2.2.2 23 rfl ?_
 refine zK X3 hx d23 1 rfl 24 rfl ?_
 exact own_finI X3 hx hlk (t := .int) hre (by simp) rfl d24 e3 ⟨rfl, N0, rfl⟩ (by decide) (by decide)
def QrmDif (Z : State) (u : Addr) (ua : Addr) (k : ClassId) (q : Addr) (qa : Addr) (kq : ClassId) (x : Int32) (y : Int32) (h0 : Heap) (n0 : Nat) (v : Option Value) (h : Heap) (L : List Loc) : Prop := ∃ y2 : Int32, v = some (.int (1 : Int32)) ∧ Fr n0 L ∧ Keep h0 h [ua] ∧ (Arv Z h ua k .int (2 : Int32) [(.int x), (.int y2)] (.int (0 : Int32))) ∧ (UI y2 + 1 = UI y)
abbrev RrmDif : Room := { frames := 1, cells := 0, slots := 0, locals := 19 }
theorem rmDif (l : Launch) (Z : State) (a0 : Array Value) (hw : ∀ d ∈ tables_1, d.before a0 Z = true) (ws : List Jvm.Cond) (u : Addr) (ua : Addr) (k : ClassId) (q : Addr) (qa : Addr) (kq : ClassId) (x : Int32) (y : Int32) (h0 : Heap) (n0 : Nat) (Z0 : n0 ≤ h0.size)  (p_Exa_u : Exa Z h0 u "java/math/MutableBigInteger") (p_Fld_u_value : Fld Z h0 u "java/math/MutableBigInteger" "value" "[I" (.ref ua)) (p_Fld_u_intLen : Fld Z h0 u "java/math/MutableBigInteger" "intLen" "I" (.int (2 : Int32))) (p_Fld_u_offset : Fld Z h0 u "java/math/MutableBigInteger" "offset" "I" (.int (0 : Int32))) (p_Arv_ua : Arv Z h0 ua k .int (2 : Int32) [(.int x), (.int y)] (.int (0 : Int32))) (p_Exa_q : Exa Z h0 q "java/math/MutableBigInteger") (p_Fld_q_value : Fld Z h0 q "java/math/MutableBigInteger" "value" "[I" (.ref qa)) (p_Fld_q_intLen : Fld Z h0 q "java/math/MutableBigInteger" "intLen" "I" (.int (1 : Int32))) (p_Fld_q_offset : Fld Z h0 q "java/math/MutableBigInteger" "offset" "I" (.int (0 : Int32))) (p_Arv_qa : Arv Z h0 qa kq .int (1 : Int32) [(.int (1 : Int32))] (.int (0 : Int32))) (hx0 : ¬ x = (0 : Int32)) (hy : ¬ y = (0 : Int32)) (ge2 : n0 ≤ ua) (ne1 : ua ≠ u) (ne2 : qa ≠ ua) (ne3 : q ≠ ua) : Mf l Z Nm8 jdk_2101_method_50_code 8 (Option.some Jvm.ClassFile.FieldType.int) ws RrmDif #[(.ref u), (.ref q)] h0 (QrmDif Z u ua k q qa kq x y h0 n0) := by
 refine own_entry (plainFor_of_name pn_java_math_MutableBigInteger) #[rv u, rv q, .unset, .unset, .unset, .unset, .unset, .unset] (fun _ => rfl) fun p e s m below meth c s₁ hx hby hml hown hnm hlk hre hZ X0 e0 => ?_
 have N0 := Fr.nil n0
 obtain ⟨d0, d1, d2, d3, d4, d7, d8, d9, d14, d15, d26, d27, d29, d30, d33, d35, d36, d39, d41, d43, d46, d49, d52, d53, d56, d57, d60, d62, d63, d64, d65, d68, d69, d70, d73, d74, d77, d79, d80, d81, d82, d85, d86, d87, d89, d91, d92, d93, d95, d96, d99, d100, d103, d105, d106, d108, d109, d110, d113, d115, d116, d117, d171, d172, d175, d176, -⟩ := D_8 hby
 refine zR X0 hx d0 rfl rfl 1 rfl ?_
 refine zl 2 _ [] (fun t k => XS.astoreN X0.here hx rfl d1 rfl rfl (l' := #[rv u, rv q, rv u, .unset, .unset, .unset, .unset, .unset]) rfl k) ?_
 refine zR X0 hx d2 rfl rfl 3 rfl ?_
 refine zR X0 hx d3 rfl rfl 4 rfl ?_
 refine zCV X0 hx hZ hml hown (tw hw 155 rfl) (tw hw 156 rfl) (tw hw 129 rfl) (tw hw 159 rfl) (tw hw 158 rfl) (tw hw 157 rfl) (rmCmp21 l Z a0 hw [] u ua q qa h0 n0 Z0 p_Exa_u p_Fld_u_value p_Fld_u_intLen p_Fld_u_offset p_Exa_q p_Fld_q_value p_Fld_q_intLen p_Fld_q_offset) 0 (by decide) u [] rfl rfl (lenOf pd_1 rfl) rfl (Nat.le_of_eq rfl) e0 p_Exa_u d4 7 rfl fun T1 L1 v1 X1 ⟨Lc1, hQ1, l1⟩ => ?_
 obtain ⟨rfl, Nq1, eh1⟩ := hQ1
 have N1 := own_frApp N0 Nq1 l1
 refine zx [.int 1] rfl ?_
 refine zl 8 _ [] (fun t k => XS.istoreN X1.here hx rfl d7 rfl (l' := #[rv u, rv q, rv u, iv 1, .unset, .unset, .unset, .unset]) rfl k) ?_
 refine zI X1 hx d8 rfl 9 rfl ?_
 refine zY X1 hx d9 ((if0 _ _).trans (feq (by decide : ¬ ((1 : Int32) = (0 : Int32)))).2) 14 (by decide) ?_
 refine zI X1 hx d14 rfl 15 rfl ?_
 refine zY X1 hx d15 ((if0 _ _).trans (flt (by decide : ¬ ((1 : Int32) < (0 : Int32)))).2.1) 26 (by decide) ?_
 refine zq 27 [.long 0] (fun t k => XS.lconst X1.here hx rfl d26 k) ?_
 refine zl 29 _ [] (fun t k => XS.lstore X1.here hx rfl d27 rfl (l' := #[rv u, rv q, rv u, iv 1, .val (.long (0 : Int64)), .second, .unset, .unset]) rfl k) ?_
 refine zR X1 hx d29 rfl rfl 30 rfl ?_
 refine zP X1 hx hZ hown (tw hw 139 rfl) eh1 p_Fld_u_intLen d30 33 rfl fun T2 X2 e2 => ?_
 refine zl 35 _ [] (fun t k => XS.istore X2.here hx rfl d33 rfl (l' := #[rv u, rv q, rv u, iv 1, .val (.long (0 : Int64)), .second, iv 2, .unset]) rfl k) ?_
 refine zR X2 hx d35 rfl rfl 36 rfl ?_
 refine zP X2 hx hZ hown (tw hw 139 rfl) e2 p_Fld_q_intLen d36 39 rfl fun T3 X3 e3 => ?_
 refine zl 41 _ [] (fun t k => XS.istore X3.here hx rfl d39 rfl (l' := #[rv u, rv q, rv u, iv 1, .val (.long (0 : Int64)), .second, iv 2, iv 1]) rfl k) ?_
 refine zI2 X3 hx d41 rfl 43 rfl ?_
 refine zN X3 hx d43 ((if0 _ _).trans (tlt (by decide : ((0 : Int32) < (1 : Int32)))).2.2.2) 46 rfl ?_
 refine zl 49 _ [] (fun t k => own_iinc X3.here hx rfl (q := (-1 : Int32)) (by decide) (l' := #[.val (.ref u), .val (.ref q), .val (.ref u), .val (.int (1 : Int32)), .val (.long (0 : Int64)), .second, .val (.int ((2 : Int32) + (-1 : Int32))), .val (.int (1 : Int32))]) d46 rfl rfl k) ?_
 have rw4 : ((2 : Int32) + (-1 : Int32)) = (1 : Int32) := (by decide)
 rw [rw4]
 refine zl 52 _ [] (fun t k => own_iinc X3.here hx rfl (q := (-1 : Int32)) (by decide) (l' := #[.val (.ref u), .val (.ref q), .val (.ref u), .val (.int (1 : Int32)), .val (.long (0 : Int64)), .second, .val (.int (1 : Int32)), .val (.int ((1 : Int32) + (-1 : Int32)))]) d49 rfl rfl k) ?_
 have rw5 : ((1 : Int32) + (-1 : Int32)) = (0 : Int32) := (by decide)
 rw [rw5]
 refine zR X3 hx d52 rfl rfl 53 rfl ?_
 refine zP X3 hx hZ hown (tw hw 137 rfl) e3 p_Fld_u_value d53 56 rfl fun T6 X6 e6 => ?_
 refine zR X6 hx d56 rfl rfl 57 rfl ?_
 refine zP X6 hx hZ hown (tw hw 135 rfl) e6 p_Fld_u_offset d57 60 rfl fun T7 X7 e7 => ?_
 refine zI2 X7 hx d60 rfl 62 rfl ?_
 refine zq 63 [.int 1, .ref ua] (fun t k => XS.iadd X7.here hx rfl d62 rfl k) ?_
 refine zIa X7 hx hZ e7 p_Arv_ua (by decide) rfl d63 64 rfl ?_
 refine zq 65 [.long (y.toInt64)] (fun t k => XS.i2l X7.here hx rfl d64 rfl k) ?_
 refine zq 68 [.long 4294967295, .long (y.toInt64)] (fun t k => X7.ldc2Long hx hown (mvT hZ (tw hw 251 rfl)) (g := (mkF m 65 #[rv u, rv q, rv u, iv 1, .val (.long (0 : Int64)), .second, iv 1, iv 0] [.long (y.toInt64)])) rfl d65 _ k) ?_
 refine zq 69 [.long ((y.toInt64) &&& (4294967295 : Int64))] (fun t k => XS.land X7.here hx rfl d68 rfl k) ?_
 refine zR X7 hx d69 rfl rfl 70 rfl ?_
 refine zP X7 hx hZ hown (tw hw 137 rfl) e7 p_Fld_q_value d70 73 rfl fun T9 X9 e9 => ?_
 refine zR X9 hx d73 rfl rfl 74 rfl ?_
 refine zP X9 hx hZ hown (tw hw 135 rfl) e9 p_Fld_q_offset d74 77 rfl fun T10 X10 e10 => ?_
 refine zI2 X10 hx d77 rfl 79 rfl ?_
 refine zq 80 [.int 0, .ref qa, .long ((y.toInt64) &&& (4294967295 : Int64))] (fun t k => XS.iadd X10.here hx rfl d79 rfl k) ?_
 refine zIa X10 hx hZ e10 p_Arv_qa (by decide) rfl d80 81 rfl ?_
 refine zq 82 [.long ((1 : Int32).toInt64), .long ((y.toInt64) &&& (4294967295 : Int64))] (fun t k => XS.i2l X10.here hx rfl d81 rfl k) ?_
 have rw12 : ((1 : Int32).toInt64) = (1 : Int64) := (by decide)
 rw [rw12]
 refine zq 85 [.long 4294967295, .long 1, .long ((y.toInt64) &&& (4294967295 : Int64))] (fun t k => X10.ldc2Long hx hown (mvT hZ (tw hw 251 rfl)) (g := (mkF m 82 #[rv u, rv q, rv u, iv 1, .val (.long (0 : Int64)), .second, iv 1, iv 0] [.long 1, .long ((y.toInt64) &&& (4294967295 : Int64))])) rfl d82 _ k) ?_
 refine zq 86 [.long ((1 : Int64) &&& (4294967295 : Int64)), .long ((y.toInt64) &&& (4294967295 : Int64))] (fun t k => XS.land X10.here hx rfl d85 rfl k) ?_
 have rw13 : ((1 : Int64) &&& (4294967295 : Int64)) = (1 : Int64) := (by decide)
 rw [rw13]
 refine zq 87 [.long (((y.toInt64) &&& (4294967295 : Int64)) - (1 : Int64))] (fun t k => XS.lsub X10.here hx rfl d86 rfl k) ?_
 refine zJ2 X10 hx d87 rfl 89 rfl ?_
 refine zq 91 [.int 32, .long 0, .long (((y.toInt64) &&& (4294967295 : Int64)) - (1 : Int64))] (fun t k => XS.bipush X10.here hx rfl d89 k) ?_
 refine zq 92 [.long ((0 : Int64) >>> ((32 : Int32) &&& 0x3f).toInt64), .long (((y.toInt64) &&& (4294967295 : Int64)) - (1 : Int64))] (fun t k => XS.lshr X10.here hx rfl d91 rfl k) ?_
 have rw14 : ((0 : Int64) >>> ((32 : Int32) &&& 0x3f).toInt64) = (0 : Int64) := (by decide)
 rw [rw14]
 refine zq 93 [.long ((((y.toInt64) &&& (4294967295 : Int64)) - (1 : Int64)) + (0 : Int64))] (fun t k => XS.ladd X10.here hx rfl d92 rfl k) ?_
 refine zl 95 _ [] (fun t k => XS.lstore X10.here hx rfl d93 rfl (l' := #[rv u, rv q, rv u, iv 1, .val (.long ((((y.toInt64) &&& (4294967295 : Int64)) - (1 : Int64)) + (0 : Int64))), .second, iv 1, iv 0]) rfl k) ?_
 refine zR X10 hx d95 rfl rfl 96 rfl ?_
 refine zP X10 hx hZ hown (tw hw 137 rfl) e10 p_Fld_u_value d96 99 rfl fun T15 X15 e15 => ?_
 refine zR X15 hx d99 rfl rfl 100 rfl ?_
 refine zP X15 hx hZ hown (tw hw 135 rfl) e15 p_Fld_u_offset d100 103 rfl fun T16 X16 e16 => ?_
 refine zI2 X16 hx d103 rfl 105 rfl ?_
 refine zq 106 [.int 1, .ref ua] (fun t k => XS.iadd X16.here hx rfl d105 rfl k) ?_
 refine zJ2 X16 hx d106 rfl 108 rfl ?_
 refine zq 109 [.int (((((y.toInt64) &&& (4294967295 : Int64)) - (1 : Int64)) + (0 : Int64)).toInt32), .int 1, .ref ua] (fun t k => XS.l2i X16.here hx rfl d108 rfl k) ?_
 obtain ⟨cl17, Ar17, q17, S17, M17, H17, Gx17⟩ := id p_Arv_ua
 obtain ⟨T18, h18, X18, e18, W18, st18⟩ := stI X16 hx hZ e16 Ar17 (j := (1 : Int32)) (inb_of S17 ⟨by decide, by decide⟩) (g := (mkF m 109 #[rv u, rv q, rv u, iv 1, .val (.long ((((y.toInt64) &&& (4294967295 : Int64)) - (1 : Int64)) + (0 : Int64))), .second, iv 1, iv 0] [.int (((((y.toInt64) &&& (4294967295 : Int64)) - (1 : Int64)) + (0 : Int64)).toInt32), .int 1, .ref ua])) rfl rfl d109
 have N18 := Fr.snoc X18 N1 ge2
 have V18 : Arv Z h18 ua k .int (2 : Int32) [(.int x), (.int (((((y.toInt64) &&& (4294967295 : Int64)) - (1 : Int64)) + (0 : Int64)).toInt32))] (.int (0 : Int32)) := Arv.set Ar17 q17 S17 M17 H17 Gx17 rfl W18 1 rfl (Nat.le_of_ble_eq_true rfl)
 refine zt 110 [] st18 ?_
 refine zG X18 hx d110 41 (by decide) ?_
 refine zI2 X18 hx d41 rfl 43 rfl ?_
 refine zY X18 hx d43 ((if0 _ _).trans (flt (by decide : ¬ ((0 : Int32) < (0 : Int32)))).2.2.2) 113 (by decide) ?_
 refine zJ2 X18 hx d113 rfl 115 rfl ?_
 refine zq 116 [.long 0, .long ((((y.toInt64) &&& (4294967295 : Int64)) - (1 : Int64)) + (0 : Int64))] (fun t k => XS.lconst X18.here hx rfl d115 k) ?_
 refine zq 117 [.int (lcmpW ((((y.toInt64) &&& (4294967295 : Int64)) - (1 : Int64)) + (0 : Int64)) (0 : Int64))] (fun t k => XS.lcmp X18.here hx rfl d116 rfl k) ?_
 refine zY X18 hx d117 ((if0 _ _).trans (flt (fun q => dif_ge hy ((lw_lt _ _).mp q))).2.1) 171 (by decide) ?_
 refine zR X18 hx d171 rfl rfl 172 rfl ?_
 have F19 := (p_Exa_u.wr W18)
 have F20 := (p_Fld_u_value.other W18 (Or.inl (Ne.symm ne1)))
 have F21 := (p_Fld_u_intLen.other W18 (Or.inl (Ne.symm ne1)))
 have F22 := (p_Fld_u_offset.other W18 (Or.inl (Ne.symm ne1)))
 refine zCV X18 hx hZ hml hown (tw hw 283 rfl) (tw hw 284 rfl) (tw hw 129 rfl) (tw hw 287 rfl) (tw hw 286 rfl) (tw hw 285 rfl) (rmNorm2 l Z a0 hw [] u ua k x (((((y.toInt64) &&& (4294967295 : Int64)) - (1 : Int64)) + (0 : Int64)).toInt32) h18 n0 (Nat.le_trans Z0 (Nat.le_of_eq W18.size.symm)) F19 F20 F21 F22 V18 hx0) 0 (by decide) u [] rfl rfl (lenOf pd_2 rfl) rfl (Nat.le_of_eq rfl) e18 F19 d172 175 rfl fun T23 L23 v23 X23 ⟨Lc23, hQ23, l23⟩ => ?_
 obtain ⟨rfl, Nq23, eh23⟩ := hQ23
 have N23 := own_frApp N18 Nq23 l23
 refine zx [] rfl ?_
 refine zI X23 hx d175 rfl 176 rfl ?_
 exact own_finI X23 hx hlk (t := .int) hre (by simp) rfl d176 eh23 ⟨(((((y.toInt64) &&& (4294967295 : Int64)) - (1 : Int64)) + (0 : Int64)).toInt32), rfl, N23, ((Keep.refl h0 [ua]).wr W18 (Or.inl (List.mem_of_getElem? (i := 0) rfl))), V18, (dif_lo hy)⟩ (by decide) (by decide)
def QrmRs0 (Z : State) (u : Addr) (ua : Addr) (h0 : Heap) (n0 : Nat) (v : Option Value) (h : Heap) (L : List Loc) : Prop := v = none ∧ Fr n0 L ∧ Keep h0 h [u] ∧ (Exa Z h u "java/math/MutableBigInteger") ∧ (Fld Z h u "java/math/MutableBigInteger" "value" "[I" (.ref ua)) ∧ (Fld Z h u "java/math/MutableBigInteger" "intLen" "I" (.int (1 : Int32))) ∧ (Fld Z h u "java/math/MutableBigInteger" "offset" "I" (.int (0 : Int32)))
abbrev RrmRs0 : Room := { frames := 0, cells := 0, slots := 0, locals := 0 }
theorem rmRs0 (l : Launch) (Z : State) (a0 : Array Value) (hw : ∀ d ∈ tables_1, d.before a0 Z = true) (ws : List Jvm.Cond) (u : Addr) (ua : Addr) (h0 : Heap) (n0 : Nat) (Z0 : n0 ≤ h0.size)  (p_Exa_u : Exa Z h0 u "java/math/MutableBigInteger") (p_Fld_u_value : Fld Z h0 u "java/math/MutableBigInteger" "value" "[I" (.ref ua)) (p_Fld_u_intLen : Fld Z h0 u "java/math/MutableBigInteger" "intLen" "I" (.int (1 : Int32))) (p_Fld_u_offset : Fld Z h0 u "java/math/MutableBigInteger" "offset" "I" (.int (0 : Int32))) (ge1 : n0 ≤ u) : Mf l Z Nm9 jdk_2101_method_35_code 5 (Option.none : Option Jvm.ClassFile.FieldType) ws RrmRs0 #[(.ref u), (.int (0 : Int32))] h0 (QrmRs0 Z u ua h0 n0) := by
 refine own_entry (plainFor_of_name pn_java_math_MutableBigInteger) #[rv u, iv 0, .unset, .unset, .unset] (fun _ => rfl) fun p e s m below meth c s₁ hx hby hml hown hnm hlk hre hZ X0 e0 => ?_
 have N0 := Fr.nil n0
 obtain ⟨d0, d1, d4, d8, d9, d10, d11, d12, d13, d15, d16, d17, d18, d19, d22, d23, d24, d27, d28, d31, -⟩ := D_9 hby
 refine zR X0 hx d0 rfl rfl 1 rfl ?_
 refine zP X0 hx hZ hown (tw hw 139 rfl) e0 p_Fld_u_intLen d1 4 rfl fun T1 X1 e1 => ?_
 refine zY X1 hx d4 ((if0 _ _).trans (feq (by decide : ¬ ((1 : Int32) = (0 : Int32)))).2) 8 (by decide) ?_
 refine zI X1 hx d8 rfl 9 rfl ?_
 refine zK X1 hx d9 5 rfl 10 rfl ?_
 refine zq 11 [.int (((0 : Int32).toUInt32 >>> ((5 : Int32) &&& 31).toUInt32).toInt32)] (fun t k => XS.iushr X1.here hx rfl d10 rfl k) ?_
 have rw2 : (((0 : Int32).toUInt32 >>> ((5 : Int32) &&& 31).toUInt32).toInt32) = (0 : Int32) := (by decide)
 rw [rw2]
 refine zl 12 _ [] (fun t k => XS.istoreN X1.here hx rfl d11 rfl (l' := #[rv u, iv 0, iv 0, .unset, .unset]) rfl k) ?_
 refine zI X1 hx d12 rfl 13 rfl ?_
 refine zq 15 [.int 31, .int 0] (fun t k => XS.bipush X1.here hx rfl d13 k) ?_
 refine zq 16 [.int ((0 : Int32) &&& (31 : Int32))] (fun t k => XS.iand X1.here hx rfl d15 rfl k) ?_
 have rw3 : ((0 : Int32) &&& (31 : Int32)) = (0 : Int32) := (by decide)
 rw [rw3]
 refine zl 17 _ [] (fun t k => XS.istoreN X1.here hx rfl d16 rfl (l' := #[rv u, iv 0, iv 0, iv 0, .unset]) rfl k) ?_
 refine zR X1 hx d17 rfl rfl 18 rfl ?_
 refine zD X1 hx d18 rfl 19 rfl ?_
 refine zP X1 hx hZ hown (tw hw 139 rfl) e1 p_Fld_u_intLen d19 22 rfl fun T4 X4 e4 => ?_
 refine zI X4 hx d22 rfl 23 rfl ?_
 refine zq 24 [.int 1, .ref u] (fun t k => XS.isub X4.here hx rfl d23 rfl k) ?_
 obtain ⟨T5, h5, X5, e5, W5, st5⟩ := putF X4 hx hZ hown (host := "") (Or.inl (tw hw 139 rfl)) Via.refl e4 p_Fld_u_intLen p_Exa_u (Or.inl (tw hw 140 rfl)) (tw hw 128 rfl) pf_0 rfl rfl (g := (mkF m 24 #[rv u, iv 0, iv 0, iv 0, .unset] [.int 1, .ref u])) rfl rfl d24
 have N5 := Fr.snoc X5 N0 ge1
 have Fw5 : Fld Z h5 u "java/math/MutableBigInteger" "intLen" "I" (.int (1 : Int32)) := p_Fld_u_intLen.same W5
 refine zt 27 [] st5 ?_
 refine zI X5 hx d27 rfl 28 rfl ?_
 refine zN X5 hx d28 ((if0 _ _).trans (teq (by decide : ((0 : Int32) = (0 : Int32)))).2) 31 rfl ?_
 have F6 := (p_Exa_u.wr W5)
 have F7 := (p_Fld_u_value.other W5 (Or.inr (sn_java_math_MutableBigInteger_value__intLen hw)))
 have F8 := (p_Fld_u_offset.other W5 (Or.inr (sn_java_math_MutableBigInteger_offset__intLen hw)))
 exact own_finV X5 hx hlk hre d31 e5 (K := _) ⟨rfl, N5, ((Keep.refl h0 [u]).wr W5 (Or.inl (List.mem_of_getElem? (i := 0) rfl))), F6, F7, Fw5, F8⟩ (by decide) (by decide)
def QrmRs1 (Z : State) (u : Addr) (ua : Addr) (k : ClassId) (x : Int32) (p1 : Int32) (h0 : Heap) (n0 : Nat) (v : Option Value) (h : Heap) (L : List Loc) : Prop := ∃ x2 : Int32, v = none ∧ Fr n0 L ∧ Keep h0 h [u, ua] ∧ (Exa Z h u "java/math/MutableBigInteger") ∧ (Fld Z h u "java/math/MutableBigInteger" "value" "[I" (.ref ua)) ∧ (Fld Z h u "java/math/MutableBigInteger" "intLen" "I" (.int (1 : Int32))) ∧ (Fld Z h u "java/math/MutableBigInteger" "offset" "I" (.int (0 : Int32))) ∧ (Arv Z h ua k .int (1 : Int32) [(.int x2)] (.int (0 : Int32))) ∧ (¬ x2 = (0 : Int32))
abbrev RrmRs1 : Room := { frames := 2, cells := 0, slots := 0, locals := 26 }
theorem rmRs1 (l : Launch) (Z : State) (a0 : Array Value) (hw : ∀ d ∈ tables_1, d.before a0 Z = true) (ws : List Jvm.Cond) (u : Addr) (ua : Addr) (k : ClassId) (x : Int32) (p1 : Int32) (h0 : Heap) (n0 : Nat) (Z0 : n0 ≤ h0.size)  (p_Exa_u : Exa Z h0 u "java/math/MutableBigInteger") (p_Fld_u_value : Fld Z h0 u "java/math/MutableBigInteger" "value" "[I" (.ref ua)) (p_Fld_u_intLen : Fld Z h0 u "java/math/MutableBigInteger" "intLen" "I" (.int (1 : Int32))) (p_Fld_u_offset : Fld Z h0 u "java/math/MutableBigInteger" "offset" "I" (.int (0 : Int32))) (p_Arv_ua : Arv Z h0 ua k .int (1 : Int32) [(.int x)] (.int (0 : Int32))) (ge1 : n0 ≤ u) (ge2 : n0 ≤ ua) (ne1 : ua ≠ u) (hz : ¬ x = (0 : Int32)) (hn : IsNtz x p1) : Mf l Z Nm9 jdk_2101_method_35_code 5 (Option.none : Option Jvm.ClassFile.FieldType) ws RrmRs1 #[(.ref u), (.int p1)] h0 (QrmRs1 Z u ua k x p1 h0 n0) := by
 refine own_entry (plainFor_of_name pn_java_math_MutableBigInteger) #[rv u, iv p1, .unset, .unset, .unset] (fun _ => rfl) fun p e s m below meth c s₁ hx hby hml hown hnm hlk hre hZ X0 e0 => ?_
 have N0 := Fr.nil n0
 obtain ⟨d0, d1, d4, d8, d9, d10, d11, d12, d13, d15, d16, d17, d18, d19, d22, d23, d24, d27, d28, d31, d32, d33, d36, d37, d40, d41, d44, d46, d47, d49, -, -, -, -, -, -, -, -, -, -, -, -, d73, d74, d75, d78, -⟩ := D_9 hby
 refine zR X0 hx d0 rfl rfl 1 rfl ?_
 refine zP X0 hx hZ hown (tw hw 139 rfl) e0 p_Fld_u_intLen d1 4 rfl fun T1 X1 e1 => ?_
 refine zY X1 hx d4 ((if0 _ _).trans (feq (by decide : ¬ ((1 : Int32) = (0 : Int32)))).2) 8 (by decide) ?_
 refine zI X1 hx d8 rfl 9 rfl ?_
 refine zK X1 hx d9 5 rfl 10 rfl ?_
 refine zq 11 [.int ((p1.toUInt32 >>> ((5 : Int32) &&& 31).toUInt32).toInt32)] (fun t k => XS.iushr X1.here hx rfl d10 rfl k) ?_
 refine zl 12 _ [] (fun t k => XS.istoreN X1.here hx rfl d11 rfl (l' := #[rv u, iv p1, iv ((p1.toUInt32 >>> ((5 : Int32) &&& 31).toUInt32).toInt32), .unset, .unset]) rfl k) ?_
 have rw2 : ((p1.toUInt32 >>> ((5 : Int32) &&& 31).toUInt32).toInt32) = (0 : Int32) := (shr5 hn.rng)
 rw [rw2]
 refine zI X1 hx d12 rfl 13 rfl ?_
 refine zq 15 [.int 31, .int p1] (fun t k => XS.bipush X1.here hx rfl d13 k) ?_
 refine zq 16 [.int (p1 &&& (31 : Int32))] (fun t k => XS.iand X1.here hx rfl d15 rfl k) ?_
 refine zl 17 _ [] (fun t k => XS.istoreN X1.here hx rfl d16 rfl (l' := #[rv u, iv p1, iv 0, iv (p1 &&& (31 : Int32)), .unset]) rfl k) ?_
 have rw3 : (p1 &&& (31 : Int32)) = p1 := (and31 hn.rng)
 rw [rw3]
 refine zR X1 hx d17 rfl rfl 18 rfl ?_
 refine zD X1 hx d18 rfl 19 rfl ?_
 refine zP X1 hx hZ hown (tw hw 139 rfl) e1 p_Fld_u_intLen d19 22 rfl fun T4 X4 e4 => ?_
 refine zI X4 hx d22 rfl 23 rfl ?_
 refine zq 24 [.int 1, .ref u] (fun t k => XS.isub X4.here hx rfl d23 rfl k) ?_
 obtain ⟨T5, h5, X5, e5, W5, st5⟩ := putF X4 hx hZ hown (host := "") (Or.inl (tw hw 139 rfl)) Via.refl e4 p_Fld_u_intLen p_Exa_u (Or.inl (tw hw 140 rfl)) (tw hw 128 rfl) pf_0 rfl rfl (g := (mkF m 24 #[rv u, iv p1, iv 0, iv p1, .unset] [.int 1, .ref u])) rfl rfl d24
 have N5 := Fr.snoc X5 N0 ge1
 have Fw5 : Fld Z h5 u "java/math/MutableBigInteger" "intLen" "I" (.int (1 : Int32)) := p_Fld_u_intLen.same W5
 refine zt 27 [] st5 ?_
 refine zI X5 hx d27 rfl 28 rfl ?_
 by_cases c6 : p1 = (0 : Int32)
 ·refine zN X5 hx d28 ((if0 _ _).trans (teq c6).2) 31 rfl ?_
  have F7 := (p_Exa_u.wr W5)
  have F8 := (p_Fld_u_value.other W5 (Or.inr (sn_java_math_MutableBigInteger_value__intLen hw)))
  have F9 := (p_Fld_u_offset.other W5 (Or.inr (sn_java_math_MutableBigInteger_offset__intLen hw)))
  have F10 := (p_Arv_ua.other W5 ne1)
  exact own_finV X5 hx hlk hre d31 e5 (K := _) ⟨x, rfl, N5, ((Keep.refl h0 [u, ua]).wr W5 (Or.inl (List.mem_of_getElem? (i := 0) rfl))), F7, F8, Fw5, F9, F10, hz⟩ (by decide) (by decide)
 ·refine zY X5 hx d28 ((if0 _ _).trans (feq c6).2) 32 (by decide) ?_
  refine zR X5 hx d32 rfl rfl 33 rfl ?_
  have F11 := (p_Fld_u_value.other W5 (Or.inr (sn_java_math_MutableBigInteger_value__intLen hw)))
  refine zP X5 hx hZ hown (tw hw 137 rfl) e5 F11 d33 36 rfl fun T12 X12 e12 => ?_
  refine zR X12 hx d36 rfl rfl 37 rfl ?_
  have F13 := (p_Fld_u_offset.other W5 (Or.inr (sn_java_math_MutableBigInteger_offset__intLen hw)))
  refine zP X12 hx hZ hown (tw hw 135 rfl) e12 F13 d37 40 rfl fun T14 X14 e14 => ?_
  have F15 := (p_Arv_ua.other W5 ne1)
  refine zIa X14 hx hZ e14 F15 (by decide) rfl d40 41 rfl ?_
  refine zCS X14 hx hZ hml hown (tw hw 227 rfl) (tw hw 228 rfl) (tw hw 13 rfl) (tw hw 229 rfl) (rmBl l Z a0 hw [] x h5 n0 (Nat.le_trans Z0 (Nat.le_of_eq W5.size.symm)) hz) 0 (by decide) [] rfl (lenOf pd_0 rfl) rfl (Nat.le_of_eq rfl) e14 d41 44 rfl fun T17 L17 v17 X17 ⟨Lc17, hQ17, l17⟩ => ?_
  obtain ⟨z_17, rfl, Nq17, eh17, f17_0⟩ := hQ17
  have N17 := own_frApp N5 Nq17 l17
  refine zx [.int z_17] rfl ?_
  refine zl 46 _ [] (fun t k => XS.istore X17.here hx rfl d44 rfl (l' := #[rv u, iv p1, iv 0, iv p1, iv z_17]) rfl k) ?_
  refine zI X17 hx d46 rfl 47 rfl ?_
  refine zI2 X17 hx d47 rfl 49 rfl ?_
  refine zCY X17 hx d49 (tlt (IsNtz.lt_bl hn f17_0)).1 73 (by decide) ?_
  refine zR X17 hx d73 rfl rfl 74 rfl ?_
  refine zI X17 hx d74 rfl 75 rfl ?_
  have F18 := (p_Exa_u.wr W5)
  refine zCP X17 hx hZ hml hown (tw hw 233 rfl) (tw hw 235 rfl) (tw hw 129 rfl) (tw hw 237 rfl) (tw hw 236 rfl) (tw hw 234 rfl) (rmPr1 l Z a0 hw [] u ua k x p1 h5 n0 (Nat.le_trans Z0 (Nat.le_of_eq W5.size.symm)) F18 F11 Fw5 F13 F15 ge2 ne1) 0 (by decide) u [] rfl rfl (lenOf pd_3 rfl) rfl (Nat.le_of_eq rfl) eh17 F18 d75 78 rfl fun T19 L19 v19 X19 ⟨Lc19, hQ19, l19⟩ => ?_
  obtain ⟨rfl, Nq19, K19, f19_0⟩ := hQ19
  have N19 := own_frApp N17 Nq19 l19
  refine zx [] rfl ?_
  have F20 := (F18.keep K19)
  have F21 := (F11.keep K19 (ninS (Ne.symm ne1) nin0))
  have F22 := (Fw5.keep K19 (ninS (Ne.symm ne1) nin0))
  have F23 := (F13.keep K19 (ninS (Ne.symm ne1) nin0))
  exact own_finV X19 hx hlk hre d78 rfl (K := _) ⟨((x.toUInt32 >>> (p1 &&& 31).toUInt32).toInt32), rfl, N19, (((Keep.refl h0 [u, ua]).wr W5 (Or.inl (List.mem_of_getElem? (i := 0) rfl))).trans K19 (allS (Or.inl (List.mem_of_getElem? (i := 1) rfl)) all0)), F20, F21, F22, F23, f19_0, (IsNtz.shr hn)⟩ (by decide) (by decide)
def QrmRs2 (Z : State) (u : Addr) (ua : Addr) (k : ClassId) (x : Int32) (y : Int32) (p1 : Int32) (h0 : Heap) (n0 : Nat) (v : Option Value) (h : Heap) (L : List Loc) : Prop := ∃ t : Int32, ∃ x2 : Int32, ∃ y2 : Int32, v = none ∧ Fr n0 L ∧ Keep h0 h [u, ua] ∧ (Exa Z h u "java/math/MutableBigInteger") ∧ (Fld Z h u "java/math/MutableBigInteger" "value" "[I" (.ref ua)) ∧ (Fld Z h u "java/math/MutableBigInteger" "intLen" "I" (.int t)) ∧ (Fld Z h u "java/math/MutableBigInteger" "offset" "I" (.int (0 : Int32))) ∧ (Arv Z h ua k .int (2 : Int32) [(.int x2), (.int y2)] (.int (0 : Int32))) ∧ (Rs t x2 y2 x y)
abbrev RrmRs2 : Room := { frames := 2, cells := 0, slots := 0, locals := 26 }
theorem rmRs2 (l : Launch) (Z : State) (a0 : Array Value) (hw : ∀ d ∈ tables_1, d.before a0 Z = true) (ws : List Jvm.Cond) (u : Addr) (ua : Addr) (k : ClassId) (x : Int32) (y : Int32) (p1 : Int32) (h0 : Heap) (n0 : Nat) (Z0 : n0 ≤ h0.size)  (p_Exa_u : Exa Z h0 u "java/math/MutableBigInteger") (p_Fld_u_value : Fld Z h0 u "java/math/MutableBigInteger" "value" "[I" (.ref ua)) (p_Fld_u_intLen : Fld Z h0 u "java/math/MutableBigInteger" "intLen" "I" (.int (2 : Int32))) (p_Fld_u_offset : Fld Z h0 u "java/math/MutableBigInteger" "offset" "I" (.int (0 : Int32))) (p_Arv_ua : Arv Z h0 ua k .int (2 : Int32) [(.int x), (.int y)] (.int (0 : Int32))) (ge1 : n0 ≤ u) (ge2 : n0 ≤ ua) (ne1 : ua ≠ u) (hx0 : ¬ x = (0 : Int32)) (hg : Gz x y p1) : Mf l Z Nm9 jdk_2101_method_35_code 5 (Option.none : Option Jvm.ClassFile.FieldType) ws RrmRs2 #[(.ref u), (.int p1)] h0 (QrmRs2 Z u ua k x y p1 h0 n0) := by
 refine own_entry (plainFor_of_name pn_java_math_MutableBigInteger) #[rv u, iv p1, .unset, .unset, .unset] (fun _ => rfl) fun p e s m below meth c s₁ hx hby hml hown hnm hlk hre hZ X0 e0 => ?_
 have N0 := Fr.nil n0
 obtain ⟨d0, d1, d4, d8, d9, d10, d11, d12, d13, d15, d16, d17, d18, d19, d22, d23, d24, d27, d28, d31, d32, d33, d36, d37, d40, d41, d44, d46, d47, d49, d52, d53, d55, d56, d57, d60, d61, d62, d65, d66, d67, d70, d73, d74, d75, d78, -⟩ := D_9 hby
 rcases id hg with ⟨hy, hn⟩ | ⟨hy, z, hz1, hn⟩
 ·refine zR X0 hx d0 rfl rfl 1 rfl ?_
  refine zP X0 hx hZ hown (tw hw 139 rfl) e0 p_Fld_u_intLen d1 4 rfl fun T1 X1 e1 => ?_
  refine zY X1 hx d4 ((if0 _ _).trans (feq (by decide : ¬ ((2 : Int32) = (0 : Int32)))).2) 8 (by decide) ?_
  refine zI X1 hx d8 rfl 9 rfl ?_
  refine zK X1 hx d9 5 rfl 10 rfl ?_
  refine zq 11 [.int ((p1.toUInt32 >>> ((5 : Int32) &&& 31).toUInt32).toInt32)] (fun t k => XS.iushr X1.here hx rfl d10 rfl k) ?_
  refine zl 12 _ [] (fun t k => XS.istoreN X1.here hx rfl d11 rfl (l' := #[rv u, iv p1, iv ((p1.toUInt32 >>> ((5 : Int32) &&& 31).toUInt32).toInt32), .unset, .unset]) rfl k) ?_
  have rw2 : ((p1.toUInt32 >>> ((5 : Int32) &&& 31).toUInt32).toInt32) = (0 : Int32) := (shr5 hn.rng)
  rw [rw2]
  refine zI X1 hx d12 rfl 13 rfl ?_
  refine zq 15 [.int 31, .int p1] (fun t k => XS.bipush X1.here hx rfl d13 k) ?_
  refine zq 16 [.int (p1 &&& (31 : Int32))] (fun t k => XS.iand X1.here hx rfl d15 rfl k) ?_
  refine zl 17 _ [] (fun t k => XS.istoreN X1.here hx rfl d16 rfl (l' := #[rv u, iv p1, iv 0, iv (p1 &&& (31 : Int32)), .unset]) rfl k) ?_
  have rw3 : (p1 &&& (31 : Int32)) = p1 := (and31 hn.rng)
  rw [rw3]
  refine zR X1 hx d17 rfl rfl 18 rfl ?_
  refine zD X1 hx d18 rfl 19 rfl ?_
  refine zP X1 hx hZ hown (tw hw 139 rfl) e1 p_Fld_u_intLen d19 22 rfl fun T4 X4 e4 => ?_
  refine zI X4 hx d22 rfl 23 rfl ?_
  refine zq 24 [.int 2, .ref u] (fun t k => XS.isub X4.here hx rfl d23 rfl k) ?_
  obtain ⟨T5, h5, X5, e5, W5, st5⟩ := putF X4 hx hZ hown (host := "") (Or.inl (tw hw 139 rfl)) Via.refl e4 p_Fld_u_intLen p_Exa_u (Or.inl (tw hw 140 rfl)) (tw hw 128 rfl) pf_0 rfl rfl (g := (mkF m 24 #[rv u, iv p1, iv 0, iv p1, .unset] [.int 2, .ref u])) rfl rfl d24
  have N5 := Fr.snoc X5 N0 ge1
  have Fw5 : Fld Z h5 u "java/math/MutableBigInteger" "intLen" "I" (.int (2 : Int32)) := p_Fld_u_intLen.same W5
  refine zt 27 [] st5 ?_
  refine zI X5 hx d27 rfl 28 rfl ?_
  by_cases c6 : p1 = (0 : Int32)
  ·refine zN X5 hx d28 ((if0 _ _).trans (teq c6).2) 31 rfl ?_
   have F7 := (p_Exa_u.wr W5)
   have F8 := (p_Fld_u_value.other W5 (Or.inr (sn_java_math_MutableBigInteger_value__intLen hw)))
   have F9 := (p_Fld_u_offset.other W5 (Or.inr (sn_java_math_MutableBigInteger_offset__intLen hw)))
   have F10 := (p_Arv_ua.other W5 ne1)
   exact own_finV X5 hx hlk hre d31 e5 (K := _) ⟨(2 : Int32), x, y, rfl, N5, ((Keep.refl h0 [u, ua]).wr W5 (Or.inl (List.mem_of_getElem? (i := 0) rfl))), F7, F8, Fw5, F9, F10, ⟨hx0, Or.inr ⟨rfl, hy, Nat.le_refl _⟩⟩⟩ (by decide) (by decide)
  ·refine zY X5 hx d28 ((if0 _ _).trans (feq c6).2) 32 (by decide) ?_
   refine zR X5 hx d32 rfl rfl 33 rfl ?_
   have F11 := (p_Fld_u_value.other W5 (Or.inr (sn_java_math_MutableBigInteger_value__intLen hw)))
   refine zP X5 hx hZ hown (tw hw 137 rfl) e5 F11 d33 36 rfl fun T12 X12 e12 => ?_
   refine zR X12 hx d36 rfl rfl 37 rfl ?_
   have F13 := (p_Fld_u_offset.other W5 (Or.inr (sn_java_math_MutableBigInteger_offset__intLen hw)))
   refine zP X12 hx hZ hown (tw hw 135 rfl) e12 F13 d37 40 rfl fun T14 X14 e14 => ?_
   have F15 := (p_Arv_ua.other W5 ne1)
   refine zIa X14 hx hZ e14 F15 (by decide) rfl d40 41 rfl ?_
   refine zCS X14 hx hZ hml hown (tw hw 227 rfl) (tw hw 228 rfl) (tw hw 13 rfl) (tw hw 229 rfl) (rmBl l Z a0 hw [] x h5 n0 (Nat.le_trans Z0 (Nat.le_of_eq W5.size.symm)) hx0) 0 (by decide) [] rfl (lenOf pd_0 rfl) rfl (Nat.le_of_eq rfl) e14 d41 44 rfl fun T17 L17 v17 X17 ⟨Lc17, hQ17, l17⟩ => ?_
   obtain ⟨z_17, rfl, Nq17, eh17, f17_0⟩ := hQ17
   have N17 := own_frApp N5 Nq17 l17
   refine zx [.int z_17] rfl ?_
   refine zl 46 _ [] (fun t k => XS.istore X17.here hx rfl d44 rfl (l' := #[rv u, iv p1, iv 0, iv p1, iv z_17]) rfl k) ?_
   refine zI X17 hx d46 rfl 47 rfl ?_
   refine zI2 X17 hx d47 rfl 49 rfl ?_
   by_cases c18 : p1 < z_17
   ·refine zCY X17 hx d49 (tlt c18).1 73 (by decide) ?_
    refine zR X17 hx d73 rfl rfl 74 rfl ?_
    refine zI X17 hx d74 rfl 75 rfl ?_
    have F19 := (p_Exa_u.wr W5)
    refine zCP X17 hx hZ hml hown (tw hw 233 rfl) (tw hw 235 rfl) (tw hw 129 rfl) (tw hw 237 rfl) (tw hw 236 rfl) (tw hw 234 rfl) (rmPr2 l Z a0 hw [] u ua k x y p1 h5 n0 (Nat.le_trans Z0 (Nat.le_of_eq W5.size.symm)) F19 F11 Fw5 F13 F15 ge2 ne1) 0 (by decide) u [] rfl rfl (lenOf pd_3 rfl) rfl (Nat.le_of_eq rfl) eh17 F19 d75 78 rfl fun T20 L20 v20 X20 ⟨Lc20, hQ20, l20⟩ => ?_
    obtain ⟨rfl, Nq20, K20, f20_0⟩ := hQ20
    have N20 := own_frApp N17 Nq20 l20
    refine zx [] rfl ?_
    have F21 := (F19.keep K20)
    have F22 := (F11.keep K20 (ninS (Ne.symm ne1) nin0))
    have F23 := (Fw5.keep K20 (ninS (Ne.symm ne1) nin0))
    have F24 := (F13.keep K20 (ninS (Ne.symm ne1) nin0))
    exact own_finV X20 hx hlk hre d78 rfl (K := _) ⟨(2 : Int32), ((x.toUInt32 >>> (p1 &&& 31).toUInt32).toInt32), ((x <<< (((32 : Int32) - p1) &&& 31)) ||| ((y.toUInt32 >>> (p1 &&& 31).toUInt32).toInt32)), rfl, N20, (((Keep.refl h0 [u, ua]).wr W5 (Or.inl (List.mem_of_getElem? (i := 0) rfl))).trans K20 (allS (Or.inl (List.mem_of_getElem? (i := 1) rfl)) all0)), F21, F22, F23, F24, f20_0, (rs_two hn f17_0 c18 c6)⟩ (by decide) (by decide)
   ·refine zCN X17 hx d49 (flt c18).1 52 rfl ?_
    refine zR X17 hx d52 rfl rfl 53 rfl ?_
    refine zq 55 [.int 32, .ref u] (fun t k => XS.bipush X17.here hx rfl d53 k) ?_
    refine zI X17 hx d55 rfl 56 rfl ?_
    refine zq 57 [.int ((32 : Int32) - p1), .ref u] (fun t k => XS.isub X17.here hx rfl d56 rfl k) ?_
    have F25 := (p_Exa_u.wr W5)
    refine zCP X17 hx hZ hml hown (tw hw 288 rfl) (tw hw 290 rfl) (tw hw 129 rfl) (tw hw 292 rfl) (tw hw 291 rfl) (tw hw 289 rfl) (rmPl2 l Z a0 hw [] u ua k x y ((32 : Int32) - p1) h5 n0 (Nat.le_trans Z0 (Nat.le_of_eq W5.size.symm)) F25 F11 Fw5 F13 F15 ge2 ne1) 0 (by decide) u [] rfl rfl (lenOf pd_3 rfl) rfl (Nat.le_of_eq rfl) eh17 F25 d57 60 rfl fun T26 L26 v26 X26 ⟨Lc26, hQ26, l26⟩ => ?_
    obtain ⟨rfl, Nq26, K26, f26_0⟩ := hQ26
    have N26 := own_frApp N17 Nq26 l26
    refine zx [] rfl ?_
    refine zR X26 hx d60 rfl rfl 61 rfl ?_
    refine zD X26 hx d61 rfl 62 rfl ?_
    have F27 := (Fw5.keep K26 (ninS (Ne.symm ne1) nin0))
    refine zP X26 hx hZ hown (tw hw 139 rfl) rfl F27 d62 65 rfl fun T28 X28 e28 => ?_
    refine zK X28 hx d65 1 rfl 66 rfl ?_
    refine zq 67 [.int 1, .ref u] (fun t k => XS.isub X28.here hx rfl d66 rfl k) ?_
    have F29 := (F25.keep K26)
    obtain ⟨T30, h30, X30, e30, W30, st30⟩ := putF X28 hx hZ hown (host := "") (Or.inl (tw hw 139 rfl)) Via.refl e28 F27 F29 (Or.inl (tw hw 140 rfl)) (tw hw 128 rfl) pf_0 rfl rfl (g := (mkF m 67 #[rv u, iv p1, iv 0, iv p1, iv z_17] [.int 1, .ref u])) rfl rfl d67
    have N30 := Fr.snoc X30 N26 ge1
    have Fw30 : Fld Z h30 u "java/math/MutableBigInteger" "intLen" "I" (.int (1 : Int32)) := F27.same W30
    refine zt 70 [] st30 ?_
    refine zG X30 hx d70 78 (by decide) ?_
    have F31 := (F29.wr W30)
    have F32 := ((F11.keep K26 (ninS (Ne.symm ne1) nin0)).other W30 (Or.inr (sn_java_math_MutableBigInteger_value__intLen hw)))
    have F33 := ((F13.keep K26 (ninS (Ne.symm ne1) nin0)).other W30 (Or.inr (sn_java_math_MutableBigInteger_offset__intLen hw)))
    have F34 := (f26_0.other W30 ne1)
    exact own_finV X30 hx hlk hre d78 e30 (K := _) ⟨(1 : Int32), ((x <<< (((32 : Int32) - p1) &&& 31)) ||| ((y.toUInt32 >>> (((32 : Int32) - ((32 : Int32) - p1)) &&& 31).toUInt32).toInt32)), (y <<< (((32 : Int32) - p1) &&& 31)), rfl, N30, ((((Keep.refl h0 [u, ua]).wr W5 (Or.inl (List.mem_of_getElem? (i := 0) rfl))).trans K26 (allS (Or.inl (List.mem_of_getElem? (i := 1) rfl)) all0)).wr W30 (Or.inl (List.mem_of_getElem? (i := 0) rfl))), F31, F32, Fw30, F33, F34, ⟨or_ne (rs_low hn), Or.inl rfl⟩⟩ (by decide) (by decide)
 ·subst hz1
  refine zR X0 hx d0 rfl rfl 1 rfl ?_
  refine zP X0 hx hZ hown (tw hw 139 rfl) e0 p_Fld_u_intLen d1 4 rfl fun T35 X35 e35 => ?_
  refine zY X35 hx d4 ((if0 _ _).trans (feq (by decide : ¬ ((2 : Int32) = (0 : Int32)))).2) 8 (by decide) ?_
  refine zI X35 hx d8 rfl 9 rfl ?_
  refine zK X35 hx d9 5 rfl 10 rfl ?_
  refine zq 11 [.int ((((32 : Int32) + z).toUInt32 >>> ((5 : Int32) &&& 31).toUInt32).toInt32)] (fun t k => XS.iushr X35.here hx rfl d10 rfl k) ?_
  refine zl 12 _ [] (fun t k => XS.istoreN X35.here hx rfl d11 rfl (l' := #[rv u, iv ((32 : Int32) + z), iv ((((32 : Int32) + z).toUInt32 >>> ((5 : Int32) &&& 31).toUInt32).toInt32), .unset, .unset]) rfl k) ?_
  have rw36 : ((((32 : Int32) + z).toUInt32 >>> ((5 : Int32) &&& 31).toUInt32).toInt32) = (1 : Int32) := (shr5b hn.rng)
  rw [rw36]
  refine zI X35 hx d12 rfl 13 rfl ?_
  refine zq 15 [.int 31, .int ((32 : Int32) + z)] (fun t k => XS.bipush X35.here hx rfl d13 k) ?_
  refine zq 16 [.int (((32 : Int32) + z) &&& (31 : Int32))] (fun t k => XS.iand X35.here hx rfl d15 rfl k) ?_
  refine zl 17 _ [] (fun t k => XS.istoreN X35.here hx rfl d16 rfl (l' := #[rv u, iv ((32 : Int32) + z), iv 1, iv (((32 : Int32) + z) &&& (31 : Int32)), .unset]) rfl k) ?_
  have rw37 : (((32 : Int32) + z) &&& (31 : Int32)) = z := (and31b hn.rng)
  rw [rw37]
  refine zR X35 hx d17 rfl rfl 18 rfl ?_
  refine zD X35 hx d18 rfl 19 rfl ?_
  refine zP X35 hx hZ hown (tw hw 139 rfl) e35 p_Fld_u_intLen d19 22 rfl fun T38 X38 e38 => ?_
  refine zI X38 hx d22 rfl 23 rfl ?_
  refine zq 24 [.int 1, .ref u] (fun t k => XS.isub X38.here hx rfl d23 rfl k) ?_
  obtain ⟨T39, h39, X39, e39, W39, st39⟩ := putF X38 hx hZ hown (host := "") (Or.inl (tw hw 139 rfl)) Via.refl e38 p_Fld_u_intLen p_Exa_u (Or.inl (tw hw 140 rfl)) (tw hw 128 rfl) pf_0 rfl rfl (g := (mkF m 24 #[rv u, iv ((32 : Int32) + z), iv 1, iv z, .unset] [.int 1, .ref u])) rfl rfl d24
  have N39 := Fr.snoc X39 N0 ge1
  have Fw39 : Fld Z h39 u "java/math/MutableBigInteger" "intLen" "I" (.int (1 : Int32)) := p_Fld_u_intLen.same W39
  refine zt 27 [] st39 ?_
  refine zI X39 hx d27 rfl 28 rfl ?_
  by_cases c40 : z = (0 : Int32)
  ·refine zN X39 hx d28 ((if0 _ _).trans (teq c40).2) 31 rfl ?_
   have F41 := (p_Exa_u.wr W39)
   have F42 := (p_Fld_u_value.other W39 (Or.inr (sn_java_math_MutableBigInteger_value__intLen hw)))
   have F43 := (p_Fld_u_offset.other W39 (Or.inr (sn_java_math_MutableBigInteger_offset__intLen hw)))
   have F44 := (p_Arv_ua.other W39 ne1)
   exact own_finV X39 hx hlk hre d31 e39 (K := _) ⟨(1 : Int32), x, y, rfl, N39, ((Keep.refl h0 [u, ua]).wr W39 (Or.inl (List.mem_of_getElem? (i := 0) rfl))), F41, F42, Fw39, F43, F44, ⟨hx0, Or.inl rfl⟩⟩ (by decide) (by decide)
  ·refine zY X39 hx d28 ((if0 _ _).trans (feq c40).2) 32 (by decide) ?_
   refine zR X39 hx d32 rfl rfl 33 rfl ?_
   have F45 := (p_Fld_u_value.other W39 (Or.inr (sn_java_math_MutableBigInteger_value__intLen hw)))
   refine zP X39 hx hZ hown (tw hw 137 rfl) e39 F45 d33 36 rfl fun T46 X46 e46 => ?_
   refine zR X46 hx d36 rfl rfl 37 rfl ?_
   have F47 := (p_Fld_u_offset.other W39 (Or.inr (sn_java_math_MutableBigInteger_offset__intLen hw)))
   refine zP X46 hx hZ hown (tw hw 135 rfl) e46 F47 d37 40 rfl fun T48 X48 e48 => ?_
   have F49 := (p_Arv_ua.other W39 ne1)
   refine zIa X48 hx hZ e48 F49 (by decide) rfl d40 41 rfl ?_
   refine zCS X48 hx hZ hml hown (tw hw 227 rfl) (tw hw 228 rfl) (tw hw 13 rfl) (tw hw 229 rfl) (rmBl l Z a0 hw [] x h39 n0 (Nat.le_trans Z0 (Nat.le_of_eq W39.size.symm)) hx0) 0 (by decide) [] rfl (lenOf pd_0 rfl) rfl (Nat.le_of_eq rfl) e48 d41 44 rfl fun T51 L51 v51 X51 ⟨Lc51, hQ51, l51⟩ => ?_
   obtain ⟨z_51, rfl, Nq51, eh51, f51_0⟩ := hQ51
   have N51 := own_frApp N39 Nq51 l51
   refine zx [.int z_51] rfl ?_
   refine zl 46 _ [] (fun t k => XS.istore X51.here hx rfl d44 rfl (l' := #[rv u, iv ((32 : Int32) + z), iv 1, iv z, iv z_51]) rfl k) ?_
   refine zI X51 hx d46 rfl 47 rfl ?_
   refine zI2 X51 hx d47 rfl 49 rfl ?_
   refine zCY X51 hx d49 (tlt (IsNtz.lt_bl hn f51_0)).1 73 (by decide) ?_
   refine zR X51 hx d73 rfl rfl 74 rfl ?_
   refine zI X51 hx d74 rfl 75 rfl ?_
   have F52 := (p_Exa_u.wr W39)
   refine zCP X51 hx hZ hml hown (tw hw 233 rfl) (tw hw 235 rfl) (tw hw 129 rfl) (tw hw 237 rfl) (tw hw 236 rfl) (tw hw 234 rfl) (rmPr1b l Z a0 hw [] u ua k x y z h39 n0 (Nat.le_trans Z0 (Nat.le_of_eq W39.size.symm)) F52 F45 Fw39 F47 F49 ge2 ne1) 0 (by decide) u [] rfl rfl (lenOf pd_3 rfl) rfl (Nat.le_of_eq rfl) eh51 F52 d75 78 rfl fun T53 L53 v53 X53 ⟨Lc53, hQ53, l53⟩ => ?_
   obtain ⟨rfl, Nq53, K53, f53_0⟩ := hQ53
   have N53 := own_frApp N51 Nq53 l53
   refine zx [] rfl ?_
   have F54 := (F52.keep K53)
   have F55 := (F45.keep K53 (ninS (Ne.symm ne1) nin0))
   have F56 := (Fw39.keep K53 (ninS (Ne.symm ne1) nin0))
   have F57 := (F47.keep K53 (ninS (Ne.symm ne1) nin0))
   exact own_finV X53 hx hlk hre d78 rfl (K := _) ⟨(1 : Int32), ((x.toUInt32 >>> (z &&& 31).toUInt32).toInt32), y, rfl, N53, (((Keep.refl h0 [u, ua]).wr W39 (Or.inl (List.mem_of_getElem? (i := 0) rfl))).trans K53 (allS (Or.inl (List.mem_of_getElem? (i := 1) rfl)) all0)), F54, F55, F56, F57, f53_0, ⟨(IsNtz.shr hn), Or.inl rfl⟩⟩ (by decide) (by decide)
def QrmBg (Z : State) (p1 : Int32) (h0 : Heap) (n0 : Nat) (v : Option Value) (h : Heap) (L : List Loc) : Prop := v = some (.int (1 : Int32)) ∧ Fr n0 L ∧ h = h0
abbrev RrmBg : Room := { frames := 1, cells := 0, slots := 0, locals := 14 }
theorem rmBg (l : Launch) (Z : State) (a0 : Array Value) (hw : ∀ d ∈ tables_1, d.before a0 Z = true) (ws : List Jvm.Cond) (p1 : Int32) (h0 : Heap) (n0 : Nat) (Z0 : n0 ≤ h0.size)  (hz : ¬ p1 = (0 : Int32)) : Mf l Z Nm10 jdk_2101_method_74_code 5 (Option.some Jvm.ClassFile.FieldType.int) ws RrmBg #[(.int p1), (.int (1 : Int32))] h0 (QrmBg Z p1 h0 n0) := by
 refine own_entry (plainFor_of_name pn_java_math_MutableBigInteger) #[iv p1, iv 1, .unset, .unset, .unset] (fun _ => rfl) fun p e s m below meth c s₁ hx hby hml hown hnm hlk hre hZ X0 e0 => ?_
 have N0 := Fr.nil n0
 obtain ⟨d0, d1, d6, d7, d12, d13, d16, d17, d18, d21, d22, d23, d24, d25, d26, d27, d28, d29, d30, d31, d32, d39, d40, d42, d43, d44, d47, d48, d50, d51, d52, d54, d55, d58, d59, d60, d61, d62, d63, d64, d67, d68, d69, d86, d87, d89, d90, -⟩ := D_10 hby
 refine zI X0 hx d0 rfl 1 rfl ?_
 refine zY X0 hx d1 ((if0 _ _).trans (feq (by decide : ¬ ((1 : Int32) = (0 : Int32)))).2) 6 (by decide) ?_
 refine zI X0 hx d6 rfl 7 rfl ?_
 refine zY X0 hx d7 ((if0 _ _).trans (feq hz).2) 12 (by decide) ?_
 refine zI X0 hx d12 rfl 13 rfl ?_
 refine zCS X0 hx hZ hml hown (tw hw 220 rfl) (tw hw 64 rfl) (tw hw 56 rfl) (tw hw 65 rfl) (rmNtz l Z a0 hw [] p1 h0 n0 Z0 hz) 0 (by decide) [] rfl (lenOf pd_0 rfl) rfl (Nat.le_of_eq rfl) e0 d13 16 rfl fun T1 L1 v1 X1 ⟨Lc1, hQ1, l1⟩ => ?_
 obtain ⟨z_1, rfl, Nq1, eh1, f1_0⟩ := hQ1
 have N1 := own_frApp N0 Nq1 l1
 refine zx [.int z_1] rfl ?_
 refine zl 17 _ [] (fun t k => XS.istoreN X1.here hx rfl d16 rfl (l' := #[iv p1, iv 1, iv z_1, .unset, .unset]) rfl k) ?_
 refine zI X1 hx d17 rfl 18 rfl ?_
 refine zCS X1 hx hZ hml hown (tw hw 220 rfl) (tw hw 64 rfl) (tw hw 56 rfl) (tw hw 65 rfl) (rmNtz1 l Z a0 hw [] h0 n0 Z0) 0 (by decide) [] rfl (lenOf pd_0 rfl) rfl (Nat.le_of_eq rfl) eh1 d18 21 rfl fun T2 L2 v2 X2 ⟨Lc2, hQ2, l2⟩ => ?_
 obtain ⟨rfl, Nq2, eh2⟩ := hQ2
 have N2 := own_frApp N1 Nq2 l2
 refine zx [.int 0] rfl ?_
 refine zl 22 _ [] (fun t k => XS.istoreN X2.here hx rfl d21 rfl (l' := #[iv p1, iv 1, iv z_1, iv 0, .unset]) rfl k) ?_
 refine zI X2 hx d22 rfl 23 rfl ?_
 refine zI X2 hx d23 rfl 24 rfl ?_
 refine zq 25 [.int ((p1.toUInt32 >>> (z_1 &&& 31).toUInt32).toInt32)] (fun t k => XS.iushr X2.here hx rfl d24 rfl k) ?_
 refine zl 26 _ [] (fun t k => XS.istoreN X2.here hx rfl d25 rfl (l' := #[iv ((p1.toUInt32 >>> (z_1 &&& 31).toUInt32).toInt32), iv 1, iv z_1, iv 0, .unset]) rfl k) ?_
 refine zI X2 hx d26 rfl 27 rfl ?_
 refine zI X2 hx d27 rfl 28 rfl ?_
 refine zq 29 [.int (((1 : Int32).toUInt32 >>> ((0 : Int32) &&& 31).toUInt32).toInt32)] (fun t k => XS.iushr X2.here hx rfl d28 rfl k) ?_
 have rw3 : (((1 : Int32).toUInt32 >>> ((0 : Int32) &&& 31).toUInt32).toInt32) = (1 : Int32) := (by decide)
 rw [rw3]
 refine zl 30 _ [] (fun t k => XS.istoreN X2.here hx rfl d29 rfl (l' := #[iv ((p1.toUInt32 >>> (z_1 &&& 31).toUInt32).toInt32), iv 1, iv z_1, iv 0, .unset]) rfl k) ?_
 refine zI X2 hx d30 rfl 31 rfl ?_
 refine zI X2 hx d31 rfl 32 rfl ?_
 refine zCY X2 hx d32 (flt (IsNtz.nonneg f1_0)).2.1 39 (by decide) ?_
 refine zI X2 hx d39 rfl 40 rfl ?_
 refine zl 42 _ [] (fun t k => XS.istore X2.here hx rfl d40 rfl (l' := #[iv ((p1.toUInt32 >>> (z_1 &&& 31).toUInt32).toInt32), iv 1, iv z_1, iv 0, iv 0]) rfl k) ?_
 have LP : ∀ (n : Nat) (a : Int32) (T4 : State) (L4 : List Loc) (X4 : Stand p l e RrmBg s m #[(.int p1), (.int (1 : Int32))] below meth c T4 L4 0 0) (e4 : T4.heap = h0) (N4 : Fr n0 L4) (ha : ¬ a = (0 : Int32)) (hm : UI a < n), Ends p.tables e below (fun o U' => ∃ v L, o = .returned v ∧ QrmBg Z p1 h0 n0 v U'.heap L ∧ FrameEnd s o U' L RrmBg.cells RrmBg.slots) (T4.setTop (mkF m 42 #[iv a, iv 1, iv z_1, iv 0, iv 0] [])) := by
  intro n
  induction n with
  | zero => intro a T4 L4 X4 e4 N4 ha hm; exact absurd hm (Nat.not_lt_zero _)
  | succ n IH =>
   intro a T4 L4 X4 e4 N4 ha hm
   refine zI X4 hx d42 rfl 43 rfl ?_
   refine zI X4 hx d43 rfl 44 rfl ?_
   by_cases c5 : a = (1 : Int32)
   ·refine zCY X4 hx d44 (teq c5).1 86 (by decide) ?_
    refine zI X4 hx d86 rfl 87 rfl ?_
    refine zI2 X4 hx d87 rfl 89 rfl ?_
    refine zq 90 [.int (a <<< ((0 : Int32) &&& 31))] (fun t k => XS.ishl X4.here hx rfl d89 rfl k) ?_
    have rw6 : (a <<< ((0 : Int32) &&& 31)) = (1 : Int32) := (by rw [c5]; decide)
    rw [rw6]
    exact own_finI X4 hx hlk (t := .int) hre (by simp) rfl d90 e4 ⟨rfl, N4, rfl⟩ (by decide) (by decide)
   ·refine zCN X4 hx d44 (feq c5).1 47 rfl ?_
    refine zI X4 hx d47 rfl 48 rfl ?_
    refine zq 50 [.int (-2147483648), .int a] (fun t k => X4.ldcInt hx hown (mvT hZ (tw hw 160 rfl)) (g := (mkF m 48 #[iv a, iv 1, iv z_1, iv 0, iv 0] [.int a])) rfl d48 _ k) ?_
    refine zq 51 [.int (a + (-2147483648 : Int32))] (fun t k => XS.iadd X4.here hx rfl d50 rfl k) ?_
    refine zI X4 hx d51 rfl 52 rfl ?_
    refine zq 54 [.int (-2147483648), .int 1, .int (a + (-2147483648 : Int32))] (fun t k => X4.ldcInt hx hown (mvT hZ (tw hw 160 rfl)) (g := (mkF m 52 #[iv a, iv 1, iv z_1, iv 0, iv 0] [.int 1, .int (a + (-2147483648 : Int32))])) rfl d52 _ k) ?_
    refine zq 55 [.int ((1 : Int32) + (-2147483648 : Int32)), .int (a + (-2147483648 : Int32))] (fun t k => XS.iadd X4.here hx rfl d54 rfl k) ?_
    have rw7 : ((1 : Int32) + (-2147483648 : Int32)) = (-2147483647 : Int32) := (by decide)
    rw [rw7]
    have rw8 : (-2147483647 : Int32) = ((1 : Int32) + (-2147483648 : Int32)) := (by decide)
    rw [rw8]
    refine zCN X4 hx d55 (tlt (gt_one c5 ha)).2.2.2 58 rfl ?_
    refine zI X4 hx d58 rfl 59 rfl ?_
    refine zI X4 hx d59 rfl 60 rfl ?_
    refine zq 61 [.int (a - (1 : Int32))] (fun t k => XS.isub X4.here hx rfl d60 rfl k) ?_
    refine zl 62 _ [] (fun t k => XS.istoreN X4.here hx rfl d61 rfl (l' := #[iv (a - (1 : Int32)), iv 1, iv z_1, iv 0, iv 0]) rfl k) ?_
    refine zI X4 hx d62 rfl 63 rfl ?_
    refine zI X4 hx d63 rfl 64 rfl ?_
    refine zCS X4 hx hZ hml hown (tw hw 220 rfl) (tw hw 64 rfl) (tw hw 56 rfl) (tw hw 65 rfl) (rmNtz l Z a0 hw [] (a - (1 : Int32)) h0 n0 Z0 (sub1_ne c5)) 1 (by decide) [.int (a - (1 : Int32))] rfl (lenOf pd_0 rfl) rfl (Nat.le_of_eq rfl) e4 d64 67 rfl fun T9 L9 v9 X9 ⟨Lc9, hQ9, l9⟩ => ?_
    obtain ⟨z_9, rfl, Nq9, eh9, f9_0⟩ := hQ9
    have N9 := own_frApp N4 Nq9 l9
    refine zx [.int z_9, .int (a - (1 : Int32))] rfl ?_
    refine zq 68 [.int (((a - (1 : Int32)).toUInt32 >>> (z_9 &&& 31).toUInt32).toInt32)] (fun t k => XS.iushr X9.here hx rfl d67 rfl k) ?_
    refine zl 69 _ [] (fun t k => XS.istoreN X9.here hx rfl d68 rfl (l' := #[iv (((a - (1 : Int32)).toUInt32 >>> (z_9 &&& 31).toUInt32).toInt32), iv 1, iv z_1, iv 0, iv 0]) rfl k) ?_
    refine zG X9 hx d69 42 (by decide) ?_
    exact IH  (((a - (1 : Int32)).toUInt32 >>> (z_9 &&& 31).toUInt32).toInt32) T9 _ X9 eh9 N9 ((gcd_turn c5 ha f9_0).1) (Nat.lt_of_lt_of_le (gcd_turn c5 ha f9_0).2 (Nat.le_of_lt_succ hm))
 exact LP _ ((p1.toUInt32 >>> (z_1 &&& 31).toUInt32).toInt32) T2 _ X2 eh2 N2 (IsNtz.shr f1_0) (Nat.lt_succ_self _)
def QrmMi0 (Z : State) (u : Addr) (h0 : Heap) (n0 : Nat) (v : Option Value) (h : Heap) (L : List Loc) : Prop := ∃ ra : Addr, ∃ kr : ClassId, v = none ∧ Fr n0 L ∧ Keep h0 h [u] ∧ (Exa Z h u "java/math/MutableBigInteger") ∧ (Fld Z h u "java/math/MutableBigInteger" "value" "[I" (.ref ra)) ∧ (Fld Z h u "java/math/MutableBigInteger" "intLen" "I" (.int (0 : Int32))) ∧ (Fld Z h u "java/math/MutableBigInteger" "offset" "I" (.int (0 : Int32))) ∧ (Arv Z h ra kr .int (1 : Int32) [(.int (0 : Int32))] (.int (0 : Int32))) ∧ (Exa Z h ra "[I") ∧ (h0.size ≤ ra)
abbrev RrmMi0 : Room := { frames := 1, cells := 1, slots := 1, locals := 12 }
theorem rmMi0 (l : Launch) (Z : State) (a0 : Array Value) (hw : ∀ d ∈ tables_1, d.before a0 Z = true) (ws : List Jvm.Cond) (u : Addr) (h0 : Heap) (n0 : Nat) (Z0 : n0 ≤ h0.size)  (p_Exa_u : Exa Z h0 u "java/math/MutableBigInteger") (p_Fld_u_value : Fld Z h0 u "java/math/MutableBigInteger" "value" "[I" .null) (p_Fld_u_intLen : Fld Z h0 u "java/math/MutableBigInteger" "intLen" "I" (.int (0 : Int32))) (p_Fld_u_offset : Fld Z h0 u "java/math/MutableBigInteger" "offset" "I" (.int (0 : Int32))) (ge1 : n0 ≤ u) : Mf l Z Nm11 jdk_2101_method_1_code 1 (Option.none : Option Jvm.ClassFile.FieldType) ws RrmMi0 #[(.ref u)] h0 (QrmMi0 Z u h0 n0) := by
 refine own_entry (plainFor_of_name pn_java_math_MutableBigInteger) #[rv u] (fun _ => rfl) fun p e s m below meth c s₁ hx hby hml hown hnm hlk hre hZ X0 e0 => ?_
 have N0 := Fr.nil n0
 obtain ⟨d0, d1, d4, d5, d6, d9, d10, d11, d13, d16, d17, d18, d21, -⟩ := D_11 hby
 refine zR X0 hx d0 rfl rfl 1 rfl ?_
 obtain ⟨T1, X1, e1, st1⟩ := initO X0 hx hZ hown (tw hw 134 rfl) (tw hw 21 rfl) (tw hw 22 rfl) e0 (g := (mkF m 1 #[rv u] [.ref u])) rfl (by rw [hml]; rfl) rfl d1 (by decide) (W := 0) (by show 2 * 0 + _ ≤ _; exact Nat.le_of_eq rfl) (by decide)
 refine zt 4 [] st1 ?_
 refine zR X1 hx d4 rfl rfl 5 rfl ?_
 refine zK X1 hx d5 0 rfl 6 rfl ?_
 obtain ⟨T2, h2, X2, e2, W2, st2⟩ := putF X1 hx hZ hown (host := "") (Or.inl (tw hw 135 rfl)) Via.refl e1 p_Fld_u_offset p_Exa_u (Or.inl (tw hw 136 rfl)) (tw hw 128 rfl) pf_0 rfl rfl (g := (mkF m 6 #[rv u] [.int 0, .ref u])) rfl rfl d6
 have N2 := Fr.snoc X2 N0 ge1
 have Fw2 : Fld Z h2 u "java/math/MutableBigInteger" "offset" "I" (.int (0 : Int32)) := p_Fld_u_offset.same W2
 refine zt 9 [] st2 ?_
 refine zR X2 hx d9 rfl rfl 10 rfl ?_
 refine zK X2 hx d10 1 rfl 11 rfl ?_
 obtain ⟨T3, h3, k3, X3, e3, E3, A3, Ex3, st3⟩ := newPE X2 hx hZ (tw hw 69 rfl) e2 (g := (mkF m 11 #[rv u] [.int 1, .ref u])) rfl d11 rfl (by decide : ¬ ((1 : Int32) < (0 : Int32))) (cap := 1) (by decide) (by decide) (by decide) (by decide) (ad := "[I") (by decide)
 obtain ⟨b3, g3⟩ : ∃ z, z = h2.size := ⟨_, rfl⟩
 rw [← g3] at A3 Ex3 st3
 have X3 := own_reX X3 (rfl : _ = 1) (rfl : _ = 1)
 have V3 : Arv Z h3 b3 k3 .int (1 : Int32) [(.int (0 : Int32))] (.int (0 : Int32)) := (Arv.new A3 (by decide : ¬ ((1 : Int32) < (0 : Int32)))).pad (pad_rep [] (.int (0 : Int32)) 1)
 refine zt 13 [.ref b3, .ref u] st3 ?_
 have F4 := ((p_Exa_u.wr W2).ext E3)
 have F5 := ((p_Fld_u_value.other W2 (Or.inr (sn_java_math_MutableBigInteger_value__offset hw))).ext E3)
 obtain ⟨T6, h6, X6, e6, W6, st6⟩ := putF X3 hx hZ hown (host := "") (Or.inl (tw hw 137 rfl)) Via.refl e3 F5 F4 (Or.inl (tw hw 138 rfl)) (tw hw 128 rfl) pf_1 rfl rfl (g := (mkF m 13 #[rv u] [.ref b3, .ref u])) rfl rfl d13
 have N6 := Fr.snoc X6 N2 ge1
 have Fw6 : Fld Z h6 u "java/math/MutableBigInteger" "value" "[I" (.ref b3) := F5.same W6
 refine zt 16 [] st6 ?_
 refine zR X6 hx d16 rfl rfl 17 rfl ?_
 refine zK X6 hx d17 0 rfl 18 rfl ?_
 have F7 := (F4.wr W6)
 have F8 := (((p_Fld_u_intLen.other W2 (Or.inr (sn_java_math_MutableBigInteger_intLen__offset hw))).ext E3).other W6 (Or.inr (sn_java_math_MutableBigInteger_intLen__value hw)))
 obtain ⟨T9, h9, X9, e9, W9, st9⟩ := putF X6 hx hZ hown (host := "") (Or.inl (tw hw 139 rfl)) Via.refl e6 F8 F7 (Or.inl (tw hw 140 rfl)) (tw hw 128 rfl) pf_0 rfl rfl (g := (mkF m 18 #[rv u] [.int 0, .ref u])) rfl rfl d18
 have N9 := Fr.snoc X9 N6 ge1
 have Fw9 : Fld Z h9 u "java/math/MutableBigInteger" "intLen" "I" (.int (0 : Int32)) := F8.same W9
 refine zt 21 [] st9 ?_
 have F10 := (F7.wr W9)
 have F11 := (Fw6.other W9 (Or.inr (sn_java_math_MutableBigInteger_value__intLen hw)))
 have F12 := (((Fw2.ext E3).other W6 (Or.inr (sn_java_math_MutableBigInteger_offset__value hw))).other W9 (Or.inr (sn_java_math_MutableBigInteger_offset__intLen hw)))
 have F13 := ((V3.other W6 (Ne.symm (Nat.ne_of_lt (Nat.lt_of_lt_of_le (Nat.lt_of_lt_of_le p_Exa_u.lt (Nat.le_of_eq W2.size.symm)) (Nat.le_of_eq g3.symm))))).other W9 (Ne.symm (Nat.ne_of_lt (Nat.lt_of_lt_of_le (Nat.lt_of_lt_of_le p_Exa_u.lt (Nat.le_of_eq W2.size.symm)) (Nat.le_of_eq g3.symm)))))
 have F14 := ((Ex3.wr W6).wr W9)
 exact own_finV X9 hx hlk hre d21 e9 (K := _) ⟨b3, k3, rfl, N9, (((((Keep.refl h0 [u]).wr W2 (Or.inl (List.mem_of_getElem? (i := 0) rfl))).ext E3).wr W6 (Or.inl (List.mem_of_getElem? (i := 0) rfl))).wr W9 (Or.inl (List.mem_of_getElem? (i := 0) rfl))), F10, F11, Fw9, F12, F13, F14, (Nat.le_trans (Nat.le_of_eq W2.size.symm) (Nat.le_of_eq g3.symm))⟩ (by decide) (by decide)
def QrmBG1 (Z : State) (u : Addr) (ua : Addr) (k : ClassId) (q : Addr) (qa : Addr) (kq : ClassId) (x : Int32) (h0 : Heap) (n0 : Nat) (v : Option Value) (h : Heap) (L : List Loc) : Prop := ∃ r : Addr, ∃ ra : Addr, ∃ kr : ClassId, v = some (.ref r) ∧ Fr n0 L ∧ Keep h0 h [u, ua, q] ∧ (Exa Z h r "java/math/MutableBigInteger") ∧ (Fld Z h r "java/math/MutableBigInteger" "value" "[I" (.ref ra)) ∧ (Fld Z h r "java/math/MutableBigInteger" "intLen" "I" (.int (1 : Int32))) ∧ (Fld Z h r "java/math/MutableBigInteger" "offset" "I" (.int (0 : Int32))) ∧ (Arv Z h ra kr .int (1 : Int32) [(.int (1 : Int32))] (.int (0 : Int32))) ∧ (Exa Z h ra "[I") ∧ (h0.size ≤ r) ∧ (h0.size ≤ ra)
abbrev RrmBG1 : Room := { frames := 3, cells := 2, slots := 4, locals := 42 }
theorem rmBG1 (l : Launch) (Z : State) (a0 : Array Value) (hw : ∀ d ∈ tables_1, d.before a0 Z = true) (ws : List Jvm.Cond) (u : Addr) (ua : Addr) (k : ClassId) (q : Addr) (qa : Addr) (kq : ClassId) (x : Int32) (h0 : Heap) (n0 : Nat) (Z0 : n0 ≤ h0.size)  (p_Exa_u : Exa Z h0 u "java/math/MutableBigInteger") (p_Fld_u_value : Fld Z h0 u "java/math/MutableBigInteger" "value" "[I" (.ref ua)) (p_Fld_u_intLen : Fld Z h0 u "java/math/MutableBigInteger" "intLen" "I" (.int (1 : Int32))) (p_Fld_u_offset : Fld Z h0 u "java/math/MutableBigInteger" "offset" "I" (.int (0 : Int32))) (p_Arv_ua : Arv Z h0 ua k .int (1 : Int32) [(.int x)] (.int (0 : Int32))) (p_Exa_q : Exa Z h0 q "java/math/MutableBigInteger") (p_Fld_q_value : Fld Z h0 q "java/math/MutableBigInteger" "value" "[I" (.ref qa)) (p_Fld_q_intLen : Fld Z h0 q "java/math/MutableBigInteger" "intLen" "I" (.int (1 : Int32))) (p_Fld_q_offset : Fld Z h0 q "java/math/MutableBigInteger" "offset" "I" (.int (0 : Int32))) (p_Arv_qa : Arv Z h0 qa kq .int (1 : Int32) [(.int (1 : Int32))] (.int (0 : Int32))) (hz : ¬ x = (0 : Int32)) (ge1 : n0 ≤ u) (ge2 : n0 ≤ ua) (ge3 : n0 ≤ q) (ne1 : ua ≠ u) (ne2 : qa ≠ ua) (ne3 : q ≠ ua) (ne4 : qa ≠ u) (ne5 : q ≠ u) (ne6 : qa ≠ q) : Mf l Z Nm12 jdk_2101_method_73_code 13 (Option.some (Jvm.ClassFile.FieldType.object "java/math/MutableBigInteger")) ws RrmBG1 #[(.ref u), (.ref q)] h0 (QrmBG1 Z u ua k q qa kq x h0 n0) := by
 refine own_entry (plainFor_of_name pn_java_math_MutableBigInteger) #[rv u, rv q, .unset, .unset, .unset, .unset, .unset, .unset, .unset, .unset, .unset, .unset, .unset] (fun _ => rfl) fun p e s m below meth c s₁ hx hby hml hown hnm hlk hre hZ X0 e0 => ?_
 have N0 := Fr.nil n0
 obtain ⟨d0, d1, d2, d5, d6, d9, d10, d11, d14, d16, d17, d20, d22, d24, d26, d34, d36, d38, d40, d55, d57, d59, d62, d63, d66, d67, d69, d71, d74, d75, d78, d79, d81, d83, d86, d87, d90, d91, d93, d95, d98, d99, d101, d104, d106, d108, d111, d113, d116, d118, d119, d122, d124, d125, d126, d129, d130, d133, d134, d137, d138, d141, d142, d145, d146, d149, d150, d152, d153, d156, d157, d160, d161, d163, d165, d167, d170, d172, d173, d176, d177, d179, d180, d181, d182, d185, d186, d187, d190, d192, d201, d202, -⟩ := D_12 hby
 refine zR X0 hx d0 rfl rfl 1 rfl ?_
 refine zl 2 _ [] (fun t k => XS.astoreN X0.here hx rfl d1 rfl rfl (l' := #[rv u, rv q, rv u, .unset, .unset, .unset, .unset, .unset, .unset, .unset, .unset, .unset, .unset]) rfl k) ?_
 obtain ⟨T1, h1, X1, e1, E1, A1, D1, -, st1⟩ := newO X0 hx hZ hown (tw hw 204 rfl) (tw hw 128 rfl) (tw hw 129 rfl) e0 (g := (mkF m 2 #[rv u, rv q, rv u, .unset, .unset, .unset, .unset, .unset, .unset, .unset, .unset, .unset, .unset] [])) rfl d2 (by decide) (by decide)
 obtain ⟨b1, g1⟩ : ∃ z, z = h0.size := ⟨_, rfl⟩
 rw [← g1] at A1 D1 st1
 have X1 := own_reX X1 (rfl : _ = 1) (rfl : _ = 3)
 refine zt 5 [.ref b1] st1 ?_
 refine zD X1 hx d5 rfl 6 rfl ?_
 refine zCI X1 hx hZ hml rfl rfl hown (tw hw 205 rfl) (tw hw 131 rfl) (tw hw 129 rfl) (tw hw 133 rfl) (rmMi0 l Z a0 hw [] b1 h1 n0 (Nat.le_trans Z0 E1.1) A1 (D1 (Or.inl (tw hw 138 rfl)) pf_1) (D1 (Or.inl (tw hw 140 rfl)) pf_0) (D1 (Or.inl (tw hw 136 rfl)) pf_0) (Nat.le_trans (Nat.le_trans Z0 (Nat.le_refl _)) (Nat.le_of_eq g1.symm))) 1 (by decide) b1 [.ref b1] rfl rfl (lenOf pd_2 rfl) rfl (Nat.le_of_eq rfl) e1 d6 9 rfl fun T2 L2 v2 X2 ⟨Lc2, hQ2, l2⟩ => ?_
 have X2 := own_reX X2 (rfl : _ = 2) (rfl : _ = 4)
 obtain ⟨ra_2, kr_2, rfl, Nq2, K2, f2_0, f2_1, f2_2, f2_3, f2_4, f2_5, f2_6⟩ := hQ2
 have N2 := own_frApp N0 Nq2 l2
 refine zx [.ref b1] rfl ?_
 have K3 : Keep h0 T2.heap [] := (((Keep.refl h0 []).ext E1).trans K2 (allS (Or.inr (Nat.le_trans (Nat.le_refl _) (Nat.le_of_eq g1.symm))) all0))
 refine zl 10 _ [] (fun t k => XS.astoreN X2.here hx rfl d9 rfl rfl (l' := #[rv u, rv q, rv u, rv b1, .unset, .unset, .unset, .unset, .unset, .unset, .unset, .unset, .unset]) rfl k) ?_
 refine zR X2 hx d10 rfl rfl 11 rfl ?_
 have F4 := (p_Exa_u.keep K3)
 have F5 := (p_Fld_u_value.keep K3 nin0)
 have F6 := (p_Fld_u_intLen.keep K3 nin0)
 have F7 := (p_Fld_u_offset.keep K3 nin0)
 have F8 := (p_Arv_ua.keep K3 nin0)
 refine zCP X2 hx hZ hml hown (tw hw 215 rfl) (tw hw 217 rfl) (tw hw 129 rfl) (tw hw 219 rfl) (tw hw 218 rfl) (tw hw 216 rfl) (rmGlsA l Z a0 hw [] u ua k x T2.heap n0 (Nat.le_trans Z0 K3.1) F4 F5 F6 F7 F8 hz) 0 (by decide) u [] rfl rfl (lenOf pd_4 rfl) rfl (Nat.le_of_eq rfl) rfl F4 d11 14 rfl fun T9 L9 v9 X9 ⟨Lc9, hQ9, l9⟩ => ?_
 obtain ⟨z_9, rfl, Nq9, eh9, f9_0⟩ := hQ9
 have N9 := own_frApp N2 Nq9 l9
 refine zx [.int z_9] rfl ?_
 refine zl 16 _ [] (fun t k => XS.istore X9.here hx rfl d14 rfl (l' := #[rv u, rv q, rv u, rv b1, iv z_9, .unset, .unset, .unset, .unset, .unset, .unset, .unset, .unset]) rfl k) ?_
 refine zR X9 hx d16 rfl rfl 17 rfl ?_
 have F10 := (p_Exa_q.keep K3)
 have F11 := (p_Fld_q_value.keep K3 nin0)
 have F12 := (p_Fld_q_intLen.keep K3 nin0)
 have F13 := (p_Fld_q_offset.keep K3 nin0)
 have F14 := (p_Arv_qa.keep K3 nin0)
 refine zCP X9 hx hZ hml hown (tw hw 215 rfl) (tw hw 217 rfl) (tw hw 129 rfl) (tw hw 219 rfl) (tw hw 218 rfl) (tw hw 216 rfl) (rmGls1 l Z a0 hw [] q qa kq T2.heap n0 (Nat.le_trans Z0 K3.1) F10 F11 F12 F13 F14) 0 (by decide) q [] rfl rfl (lenOf pd_4 rfl) rfl (Nat.le_of_eq rfl) eh9 F10 d17 20 rfl fun T15 L15 v15 X15 ⟨Lc15, hQ15, l15⟩ => ?_
 obtain ⟨rfl, Nq15, eh15⟩ := hQ15
 have N15 := own_frApp N9 Nq15 l15
 refine zx [.int 0] rfl ?_
 refine zl 22 _ [] (fun t k => XS.istore X15.here hx rfl d20 rfl (l' := #[rv u, rv q, rv u, rv b1, iv z_9, iv 0, .unset, .unset, .unset, .unset, .unset, .unset, .unset]) rfl k) ?_
 refine zI2 X15 hx d22 rfl 24 rfl ?_
 refine zI2 X15 hx d24 rfl 26 rfl ?_
 refine zCY X15 hx d26 (flt (IsNtz.nonneg f9_0)).2.1 34 (by decide) ?_
 refine zI2 X15 hx d34 rfl 36 rfl ?_
 refine zl 38 _ [] (fun t k => XS.istore X15.here hx rfl d36 rfl (l' := #[rv u, rv q, rv u, rv b1, iv z_9, iv 0, iv 0, .unset, .unset, .unset, .unset, .unset, .unset]) rfl k) ?_
 refine zI2 X15 hx d38 rfl 40 rfl ?_
 refine zY X15 hx d40 ((if0 _ _).trans (teq (by decide : ((0 : Int32) = (0 : Int32)))).1) 55 (by decide) ?_
 refine zI2 X15 hx d55 rfl 57 rfl ?_
 refine zI2 X15 hx d57 rfl 59 rfl ?_
 by_cases c16 : (0 : Int32) = z_9
 ·refine zCN X15 hx d59 (teq c16).2 62 rfl ?_
  refine zK X15 hx d62 1 rfl 63 rfl ?_
  refine zG X15 hx d63 67 (by decide) ?_
  refine zl 69 _ [] (fun t k => XS.istore X15.here hx rfl d67 rfl (l' := #[rv u, rv q, rv u, rv b1, iv z_9, iv 0, iv 0, iv 1, .unset, .unset, .unset, .unset, .unset]) rfl k) ?_
  refine zI2 X15 hx d69 rfl 71 rfl ?_
  refine zN X15 hx d71 ((if0 _ _).trans (feq (by decide : ¬ ((1 : Int32) = (0 : Int32)))).1) 74 rfl ?_
  refine zR X15 hx d74 rfl rfl 75 rfl ?_
  refine zG X15 hx d75 79 (by decide) ?_
  refine zl 81 _ [] (fun t k => XS.astore X15.here hx rfl d79 rfl rfl (l' := #[rv u, rv q, rv u, rv b1, iv z_9, iv 0, iv 0, iv 1, rv q, .unset, .unset, .unset, .unset]) rfl k) ?_
  refine zI2 X15 hx d81 rfl 83 rfl ?_
  refine zN X15 hx d83 ((if0 _ _).trans (feq (by decide : ¬ ((1 : Int32) = (0 : Int32)))).1) 86 rfl ?_
  refine zK X15 hx d86 (-1 : Int32) rfl 87 rfl ?_
  refine zG X15 hx d87 91 (by decide) ?_
  refine zl 93 _ [] (fun t k => XS.istore X15.here hx rfl d91 rfl (l' := #[rv u, rv q, rv u, rv b1, iv z_9, iv 0, iv 0, iv 1, rv q, iv (-1), .unset, .unset, .unset]) rfl k) ?_
  refine zR2 X15 hx d93 rfl rfl 95 rfl ?_
  refine zCP X15 hx hZ hml hown (tw hw 215 rfl) (tw hw 217 rfl) (tw hw 129 rfl) (tw hw 219 rfl) (tw hw 218 rfl) (tw hw 216 rfl) (rmGls1 l Z a0 hw [] q qa kq T2.heap n0 (Nat.le_trans Z0 K3.1) F10 F11 F12 F13 F14) 0 (by decide) q [] rfl rfl (lenOf pd_4 rfl) rfl (Nat.le_of_eq rfl) eh15 F10 d95 98 rfl fun T17 L17 v17 X17 ⟨Lc17, hQ17, l17⟩ => ?_
  obtain ⟨rfl, Nq17, eh17⟩ := hQ17
  have N17 := own_frApp N15 Nq17 l17
  refine zx [.int 0] rfl ?_
  refine zD X17 hx d98 rfl 99 rfl ?_
  refine zl 101 _ [.int 0] (fun t k => XS.istore X17.here hx rfl d99 rfl (l' := #[rv u, rv q, rv u, rv b1, iv z_9, iv 0, iv 0, iv 1, rv q, iv (-1), iv 0, .unset, .unset]) rfl k) ?_
  refine zN X17 hx d101 ((if0 _ _).trans (flt (by decide : ¬ ((0 : Int32) < (0 : Int32)))).1) 104 rfl ?_
  refine zR2 X17 hx d104 rfl rfl 106 rfl ?_
  refine zI2 X17 hx d106 rfl 108 rfl ?_
  refine zCV X17 hx hZ hml hown (tw hw 222 rfl) (tw hw 223 rfl) (tw hw 129 rfl) (tw hw 226 rfl) (tw hw 225 rfl) (tw hw 224 rfl) (rmRs0 l Z a0 hw [] q qa T2.heap n0 (Nat.le_trans Z0 K3.1) F10 F11 F12 F13 ge3) 0 (by decide) q [] rfl rfl (lenOf pd_3 rfl) rfl (Nat.le_of_eq rfl) eh17 F10 d108 111 rfl fun T18 L18 v18 X18 ⟨Lc18, hQ18, l18⟩ => ?_
  obtain ⟨rfl, Nq18, K18, f18_0, f18_1, f18_2, f18_3⟩ := hQ18
  have N18 := own_frApp N17 Nq18 l18
  refine zx [] rfl ?_
  refine zI2 X18 hx d111 rfl 113 rfl ?_
  refine zY X18 hx d113 ((if0 _ _).trans (flt (by decide : ¬ ((0 : Int32) < (-1 : Int32)))).2.2.2) 122 (by decide) ?_
  refine zR2 X18 hx d122 rfl rfl 124 rfl ?_
  refine zl 125 _ [] (fun t k => XS.astoreN X18.here hx rfl d124 rfl rfl (l' := #[rv u, rv q, rv u, rv b1, iv z_9, iv 0, iv 0, iv 1, rv q, iv (-1), iv 0, .unset, .unset]) rfl k) ?_
  refine zR X18 hx d125 rfl rfl 126 rfl ?_
  have F19 := (F6.keep K18 (ninS (Ne.symm ne5) nin0))
  refine zP X18 hx hZ hown (tw hw 139 rfl) rfl F19 d126 129 rfl fun T20 X20 e20 => ?_
  refine zK X20 hx d129 2 rfl 130 rfl ?_
  refine zCN X20 hx d130 (tlt (by decide : ((1 : Int32) < (2 : Int32)))).2.1 133 rfl ?_
  refine zR X20 hx d133 rfl rfl 134 rfl ?_
  refine zP X20 hx hZ hown (tw hw 139 rfl) e20 f18_2 d134 137 rfl fun T21 X21 e21 => ?_
  refine zK X21 hx d137 2 rfl 138 rfl ?_
  refine zCN X21 hx d138 (tlt (by decide : ((1 : Int32) < (2 : Int32)))).2.1 141 rfl ?_
  refine zR X21 hx d141 rfl rfl 142 rfl ?_
  have F22 := (F5.keep K18 (ninS (Ne.symm ne5) nin0))
  refine zP X21 hx hZ hown (tw hw 137 rfl) e21 F22 d142 145 rfl fun T23 X23 e23 => ?_
  refine zR X23 hx d145 rfl rfl 146 rfl ?_
  have F24 := (F7.keep K18 (ninS (Ne.symm ne5) nin0))
  refine zP X23 hx hZ hown (tw hw 135 rfl) e23 F24 d146 149 rfl fun T25 X25 e25 => ?_
  have F26 := (F8.keep K18 (ninS (Ne.symm ne3) nin0))
  refine zIa X25 hx hZ e25 F26 (by decide) rfl d149 150 rfl ?_
  refine zl 152 _ [] (fun t k => XS.istore X25.here hx rfl d150 rfl (l' := #[rv u, rv q, rv u, rv b1, iv z_9, iv 0, iv 0, iv 1, rv q, iv (-1), iv 0, iv x, .unset]) rfl k) ?_
  refine zR X25 hx d152 rfl rfl 153 rfl ?_
  refine zP X25 hx hZ hown (tw hw 137 rfl) e25 f18_1 d153 156 rfl fun T28 X28 e28 => ?_
  refine zR X28 hx d156 rfl rfl 157 rfl ?_
  refine zP X28 hx hZ hown (tw hw 135 rfl) e28 f18_3 d157 160 rfl fun T29 X29 e29 => ?_
  have F30 := (F14.keep K18 (ninS ne6 nin0))
  refine zIa X29 hx hZ e29 F30 (by decide) rfl d160 161 rfl ?_
  refine zl 163 _ [] (fun t k => XS.istore X29.here hx rfl d161 rfl (l' := #[rv u, rv q, rv u, rv b1, iv z_9, iv 0, iv 0, iv 1, rv q, iv (-1), iv 0, iv x, iv 1]) rfl k) ?_
  refine zI2 X29 hx d163 rfl 165 rfl ?_
  refine zI2 X29 hx d165 rfl 167 rfl ?_
  refine zCS X29 hx hZ hml hown (tw hw 238 rfl) (tw hw 239 rfl) (tw hw 129 rfl) (tw hw 240 rfl) (rmBg l Z a0 hw [] x T18.heap n0 (Nat.le_trans Z0 (Nat.le_trans K3.1 K18.1)) hz) 0 (by decide) [] rfl (lenOf pd_5 rfl) rfl (Nat.le_of_eq rfl) e29 d167 170 rfl fun T32 L32 v32 X32 ⟨Lc32, hQ32, l32⟩ => ?_
  obtain ⟨rfl, Nq32, eh32⟩ := hQ32
  have N32 := own_frApp N18 Nq32 l32
  refine zx [.int 1] rfl ?_
  refine zl 172 _ [] (fun t k => XS.istore X32.here hx rfl d170 rfl (l' := #[rv u, rv q, rv u, rv b1, iv z_9, iv 0, iv 0, iv 1, rv q, iv (-1), iv 0, iv 1, iv 1]) rfl k) ?_
  refine zR X32 hx d172 rfl rfl 173 rfl ?_
  have F33 := (f2_1.keep K18 (ninS (Ne.symm (Nat.ne_of_lt (Nat.lt_of_lt_of_le p_Exa_q.lt (Nat.le_of_eq g1.symm)))) nin0))
  refine zP X32 hx hZ hown (tw hw 137 rfl) eh32 F33 d173 176 rfl fun T34 X34 e34 => ?_
  refine zK X34 hx d176 0 rfl 177 rfl ?_
  refine zI2 X34 hx d177 rfl 179 rfl ?_
  have F35 := (f2_4.keep K18 (ninS (Ne.symm (Nat.ne_of_lt (Nat.lt_of_lt_of_le (Nat.lt_of_lt_of_le p_Exa_q.lt E1.1) f2_6))) nin0))
  obtain ⟨cl36, Ar36, q36, S36, M36, H36, Gx36⟩ := id F35
  obtain ⟨T37, h37, X37, e37, W37, st37⟩ := stI X34 hx hZ e34 Ar36 (j := (0 : Int32)) (inb_of S36 ⟨by decide, by decide⟩) (g := (mkF m 179 #[rv u, rv q, rv u, rv b1, iv z_9, iv 0, iv 0, iv 1, rv q, iv (-1), iv 0, iv 1, iv 1] [.int 1, .int 0, .ref ra_2])) rfl rfl d179
  have N37 := Fr.snoc X37 N32 (Nat.le_trans (Nat.le_trans Z0 E1.1) f2_6)
  have V37 : Arv Z h37 ra_2 kr_2 .int (1 : Int32) [(.int (1 : Int32))] (.int (0 : Int32)) := Arv.set Ar36 q36 S36 M36 H36 Gx36 rfl W37 0 rfl (Nat.le_of_ble_eq_true rfl)
  refine zt 180 [] st37 ?_
  refine zR X37 hx d180 rfl rfl 181 rfl ?_
  refine zK X37 hx d181 1 rfl 182 rfl ?_
  have F38 := ((f2_0.keep K18).wr W37)
  have F39 := ((f2_2.keep K18 (ninS (Ne.symm (Nat.ne_of_lt (Nat.lt_of_lt_of_le p_Exa_q.lt (Nat.le_of_eq g1.symm)))) nin0)).other W37 (Or.inl (Nat.ne_of_lt (Nat.lt_of_lt_of_le A1.lt f2_6))))
  obtain ⟨T40, h40, X40, e40, W40, st40⟩ := putF X37 hx hZ hown (host := "") (Or.inl (tw hw 139 rfl)) Via.refl e37 F39 F38 (Or.inl (tw hw 140 rfl)) (tw hw 128 rfl) pf_0 rfl rfl (g := (mkF m 182 #[rv u, rv q, rv u, rv b1, iv z_9, iv 0, iv 0, iv 1, rv q, iv (-1), iv 0, iv 1, iv 1] [.int 1, .ref b1])) rfl rfl d182
  have N40 := Fr.snoc X40 N37 (Nat.le_trans (Nat.le_trans Z0 (Nat.le_refl _)) (Nat.le_of_eq g1.symm))
  have Fw40 : Fld Z h40 b1 "java/math/MutableBigInteger" "intLen" "I" (.int (1 : Int32)) := F39.same W40
  refine zt 185 [] st40 ?_
  refine zR X40 hx d185 rfl rfl 186 rfl ?_
  refine zK X40 hx d186 0 rfl 187 rfl ?_
  have F41 := (F38.wr W40)
  have F42 := (((f2_3.keep K18 (ninS (Ne.symm (Nat.ne_of_lt (Nat.lt_of_lt_of_le p_Exa_q.lt (Nat.le_of_eq g1.symm)))) nin0)).other W37 (Or.inl (Nat.ne_of_lt (Nat.lt_of_lt_of_le A1.lt f2_6)))).other W40 (Or.inr (sn_java_math_MutableBigInteger_offset__intLen hw)))
  obtain ⟨T43, h43, X43, e43, W43, st43⟩ := putF X40 hx hZ hown (host := "") (Or.inl (tw hw 135 rfl)) Via.refl e40 F42 F41 (Or.inl (tw hw 136 rfl)) (tw hw 128 rfl) pf_0 rfl rfl (g := (mkF m 187 #[rv u, rv q, rv u, rv b1, iv z_9, iv 0, iv 0, iv 1, rv q, iv (-1), iv 0, iv 1, iv 1] [.int 0, .ref b1])) rfl rfl d187
  have N43 := Fr.snoc X43 N40 (Nat.le_trans (Nat.le_trans Z0 (Nat.le_refl _)) (Nat.le_of_eq g1.symm))
  have Fw43 : Fld Z h43 b1 "java/math/MutableBigInteger" "offset" "I" (.int (0 : Int32)) := F42.same W43
  refine zt 190 [] st43 ?_
  refine zI2 X43 hx d190 rfl 192 rfl ?_
  refine zY X43 hx d192 ((if0 _ _).trans (flt (by decide : ¬ ((0 : Int32) < (0 : Int32)))).2.2.2) 201 (by decide) ?_
  refine zR X43 hx d201 rfl rfl 202 rfl ?_
  have F44 := (F41.wr W43)
  have F45 := (((F33.other W37 (Or.inl (Nat.ne_of_lt (Nat.lt_of_lt_of_le A1.lt f2_6)))).other W40 (Or.inr (sn_java_math_MutableBigInteger_value__intLen hw))).other W43 (Or.inr (sn_java_math_MutableBigInteger_value__offset hw)))
  have F46 := (Fw40.other W43 (Or.inr (sn_java_math_MutableBigInteger_intLen__offset hw)))
  have F47 := ((V37.other W40 (Ne.symm (Nat.ne_of_lt (Nat.lt_of_lt_of_le A1.lt f2_6)))).other W43 (Ne.symm (Nat.ne_of_lt (Nat.lt_of_lt_of_le A1.lt f2_6))))
  have F48 := ((((f2_5.keep K18).wr W37).wr W40).wr W43)
  exact own_finR X43 hx hlk hre rfl rfl d202 e43 ⟨b1, ra_2, kr_2, rfl, N43, ((((((Keep.refl h0 [u, ua, q]).trans K3 all0).trans K18 (allS (Or.inl (List.mem_of_getElem? (i := 2) rfl)) all0)).wr W37 (Or.inr (Nat.le_trans E1.1 f2_6))).wr W40 (Or.inr (Nat.le_trans (Nat.le_refl _) (Nat.le_of_eq g1.symm)))).wr W43 (Or.inr (Nat.le_trans (Nat.le_refl _) (Nat.le_of_eq g1.symm)))), F44, F45, F46, Fw43, F47, F48, (Nat.le_trans (Nat.le_refl _) (Nat.le_of_eq g1.symm)), (Nat.le_trans E1.1 f2_6)⟩ (by decide) (by decide)
 ·refine zCY X15 hx d59 (feq c16).2 66 (by decide) ?_
  refine zK X15 hx d66 0 rfl 67 rfl ?_
  refine zl 69 _ [] (fun t k => XS.istore X15.here hx rfl d67 rfl (l' := #[rv u, rv q, rv u, rv b1, iv z_9, iv 0, iv 0, iv 0, .unset, .unset, .unset, .unset, .unset]) rfl k) ?_
  refine zI2 X15 hx d69 rfl 71 rfl ?_
  refine zY X15 hx d71 ((if0 _ _).trans (teq (by decide : ((0 : Int32) = (0 : Int32)))).1) 78 (by decide) ?_
  refine zR X15 hx d78 rfl rfl 79 rfl ?_
  refine zl 81 _ [] (fun t k => XS.astore X15.here hx rfl d79 rfl rfl (l' := #[rv u, rv q, rv u, rv b1, iv z_9, iv 0, iv 0, iv 0, rv u, .unset, .unset, .unset, .unset]) rfl k) ?_
  refine zI2 X15 hx d81 rfl 83 rfl ?_
  refine zY X15 hx d83 ((if0 _ _).trans (teq (by decide : ((0 : Int32) = (0 : Int32)))).1) 90 (by decide) ?_
  refine zK X15 hx d90 1 rfl 91 rfl ?_
  refine zl 93 _ [] (fun t k => XS.istore X15.here hx rfl d91 rfl (l' := #[rv u, rv q, rv u, rv b1, iv z_9, iv 0, iv 0, iv 0, rv u, iv 1, .unset, .unset, .unset]) rfl k) ?_
  refine zR2 X15 hx d93 rfl rfl 95 rfl ?_
  refine zCP X15 hx hZ hml hown (tw hw 215 rfl) (tw hw 217 rfl) (tw hw 129 rfl) (tw hw 219 rfl) (tw hw 218 rfl) (tw hw 216 rfl) (rmGlsA l Z a0 hw [] u ua k x T2.heap n0 (Nat.le_trans Z0 K3.1) F4 F5 F6 F7 F8 hz) 0 (by decide) u [] rfl rfl (lenOf pd_4 rfl) rfl (Nat.le_of_eq rfl) eh15 F4 d95 98 rfl fun T49 L49 v49 X49 ⟨Lc49, hQ49, l49⟩ => ?_
  obtain ⟨z_49, rfl, Nq49, eh49, f49_0⟩ := hQ49
  have N49 := own_frApp N15 Nq49 l49
  refine zx [.int z_49] rfl ?_
  refine zD X49 hx d98 rfl 99 rfl ?_
  refine zl 101 _ [.int z_49] (fun t k => XS.istore X49.here hx rfl d99 rfl (l' := #[rv u, rv q, rv u, rv b1, iv z_9, iv 0, iv 0, iv 0, rv u, iv 1, iv z_49, .unset, .unset]) rfl k) ?_
  refine zN X49 hx d101 ((if0 _ _).trans (flt (IsNtz.nonneg f49_0)).1) 104 rfl ?_
  refine zR2 X49 hx d104 rfl rfl 106 rfl ?_
  refine zI2 X49 hx d106 rfl 108 rfl ?_
  refine zCV X49 hx hZ hml hown (tw hw 222 rfl) (tw hw 223 rfl) (tw hw 129 rfl) (tw hw 226 rfl) (tw hw 225 rfl) (tw hw 224 rfl) (rmRs1 l Z a0 hw [] u ua k x z_49 T2.heap n0 (Nat.le_trans Z0 K3.1) F4 F5 F6 F7 F8 ge1 ge2 ne1 hz f49_0) 0 (by decide) u [] rfl rfl (lenOf pd_3 rfl) rfl (Nat.le_of_eq rfl) eh49 F4 d108 111 rfl fun T50 L50 v50 X50 ⟨Lc50, hQ50, l50⟩ => ?_
  obtain ⟨x2_50, rfl, Nq50, K50, f50_0, f50_1, f50_2, f50_3, f50_4, f50_5⟩ := hQ50
  have N50 := own_frApp N49 Nq50 l50
  refine zx [] rfl ?_
  refine zI2 X50 hx d111 rfl 113 rfl ?_
  refine zN X50 hx d113 ((if0 _ _).trans (tlt (by decide : ((0 : Int32) < (1 : Int32)))).2.2.2) 116 rfl ?_
  refine zR2 X50 hx d116 rfl rfl 118 rfl ?_
  refine zl 119 _ [] (fun t k => XS.astoreN X50.here hx rfl d118 rfl rfl (l' := #[rv u, rv q, rv u, rv b1, iv z_9, iv 0, iv 0, iv 0, rv u, iv 1, iv z_49, .unset, .unset]) rfl k) ?_
  refine zG X50 hx d119 125 (by decide) ?_
  refine zR X50 hx d125 rfl rfl 126 rfl ?_
  refine zP X50 hx hZ hown (tw hw 139 rfl) rfl f50_2 d126 129 rfl fun T51 X51 e51 => ?_
  refine zK X51 hx d129 2 rfl 130 rfl ?_
  refine zCN X51 hx d130 (tlt (by decide : ((1 : Int32) < (2 : Int32)))).2.1 133 rfl ?_
  refine zR X51 hx d133 rfl rfl 134 rfl ?_
  have F52 := (F12.keep K50 (ninS ne5 (ninS ne3 nin0)))
  refine zP X51 hx hZ hown (tw hw 139 rfl) e51 F52 d134 137 rfl fun T53 X53 e53 => ?_
  refine zK X53 hx d137 2 rfl 138 rfl ?_
  refine zCN X53 hx d138 (tlt (by decide : ((1 : Int32) < (2 : Int32)))).2.1 141 rfl ?_
  refine zR X53 hx d141 rfl rfl 142 rfl ?_
  refine zP X53 hx hZ hown (tw hw 137 rfl) e53 f50_1 d142 145 rfl fun T54 X54 e54 => ?_
  refine zR X54 hx d145 rfl rfl 146 rfl ?_
  refine zP X54 hx hZ hown (tw hw 135 rfl) e54 f50_3 d146 149 rfl fun T55 X55 e55 => ?_
  refine zIa X55 hx hZ e55 f50_4 (by decide) rfl d149 150 rfl ?_
  refine zl 152 _ [] (fun t k => XS.istore X55.here hx rfl d150 rfl (l' := #[rv u, rv q, rv u, rv b1, iv z_9, iv 0, iv 0, iv 0, rv u, iv 1, iv z_49, iv x2_50, .unset]) rfl k) ?_
  refine zR X55 hx d152 rfl rfl 153 rfl ?_
  have F57 := (F11.keep K50 (ninS ne5 (ninS ne3 nin0)))
  refine zP X55 hx hZ hown (tw hw 137 rfl) e55 F57 d153 156 rfl fun T58 X58 e58 => ?_
  refine zR X58 hx d156 rfl rfl 157 rfl ?_
  have F59 := (F13.keep K50 (ninS ne5 (ninS ne3 nin0)))
  refine zP X58 hx hZ hown (tw hw 135 rfl) e58 F59 d157 160 rfl fun T60 X60 e60 => ?_
  have F61 := (F14.keep K50 (ninS ne4 (ninS ne2 nin0)))
  refine zIa X60 hx hZ e60 F61 (by decide) rfl d160 161 rfl ?_
  refine zl 163 _ [] (fun t k => XS.istore X60.here hx rfl d161 rfl (l' := #[rv u, rv q, rv u, rv b1, iv z_9, iv 0, iv 0, iv 0, rv u, iv 1, iv z_49, iv x2_50, iv 1]) rfl k) ?_
  refine zI2 X60 hx d163 rfl 165 rfl ?_
  refine zI2 X60 hx d165 rfl 167 rfl ?_
  refine zCS X60 hx hZ hml hown (tw hw 238 rfl) (tw hw 239 rfl) (tw hw 129 rfl) (tw hw 240 rfl) (rmBg l Z a0 hw [] x2_50 T50.heap n0 (Nat.le_trans Z0 (Nat.le_trans K3.1 K50.1)) f50_5) 0 (by decide) [] rfl (lenOf pd_5 rfl) rfl (Nat.le_of_eq rfl) e60 d167 170 rfl fun T63 L63 v63 X63 ⟨Lc63, hQ63, l63⟩ => ?_
  obtain ⟨rfl, Nq63, eh63⟩ := hQ63
  have N63 := own_frApp N50 Nq63 l63
  refine zx [.int 1] rfl ?_
  refine zl 172 _ [] (fun t k => XS.istore X63.here hx rfl d170 rfl (l' := #[rv u, rv q, rv u, rv b1, iv z_9, iv 0, iv 0, iv 0, rv u, iv 1, iv z_49, iv 1, iv 1]) rfl k) ?_
  refine zR X63 hx d172 rfl rfl 173 rfl ?_
  have F64 := (f2_1.keep K50 (ninS (Ne.symm (Nat.ne_of_lt (Nat.lt_of_lt_of_le p_Exa_u.lt (Nat.le_of_eq g1.symm)))) (ninS (Ne.symm (Nat.ne_of_lt (Nat.lt_of_lt_of_le p_Arv_ua.lt (Nat.le_of_eq g1.symm)))) nin0)))
  refine zP X63 hx hZ hown (tw hw 137 rfl) eh63 F64 d173 176 rfl fun T65 X65 e65 => ?_
  refine zK X65 hx d176 0 rfl 177 rfl ?_
  refine zI2 X65 hx d177 rfl 179 rfl ?_
  have F66 := (f2_4.keep K50 (ninS (Ne.symm (Nat.ne_of_lt (Nat.lt_of_lt_of_le (Nat.lt_of_lt_of_le p_Exa_u.lt E1.1) f2_6))) (ninS (Ne.symm (Nat.ne_of_lt (Nat.lt_of_lt_of_le (Nat.lt_of_lt_of_le p_Arv_ua.lt E1.1) f2_6))) nin0)))
  obtain ⟨cl67, Ar67, q67, S67, M67, H67, Gx67⟩ := id F66
  obtain ⟨T68, h68, X68, e68, W68, st68⟩ := stI X65 hx hZ e65 Ar67 (j := (0 : Int32)) (inb_of S67 ⟨by decide, by decide⟩) (g := (mkF m 179 #[rv u, rv q, rv u, rv b1, iv z_9, iv 0, iv 0, iv 0, rv u, iv 1, iv z_49, iv 1, iv 1] [.int 1, .int 0, .ref ra_2])) rfl rfl d179
  have N68 := Fr.snoc X68 N63 (Nat.le_trans (Nat.le_trans Z0 E1.1) f2_6)
  have V68 : Arv Z h68 ra_2 kr_2 .int (1 : Int32) [(.int (1 : Int32))] (.int (0 : Int32)) := Arv.set Ar67 q67 S67 M67 H67 Gx67 rfl W68 0 rfl (Nat.le_of_ble_eq_true rfl)
  refine zt 180 [] st68 ?_
  refine zR X68 hx d180 rfl rfl 181 rfl ?_
  refine zK X68 hx d181 1 rfl 182 rfl ?_
  have F69 := ((f2_0.keep K50).wr W68)
  have F70 := ((f2_2.keep K50 (ninS (Ne.symm (Nat.ne_of_lt (Nat.lt_of_lt_of_le p_Exa_u.lt (Nat.le_of_eq g1.symm)))) (ninS (Ne.symm (Nat.ne_of_lt (Nat.lt_of_lt_of_le p_Arv_ua.lt (Nat.le_of_eq g1.symm)))) nin0))).other W68 (Or.inl (Nat.ne_of_lt (Nat.lt_of_lt_of_le A1.lt f2_6))))
  obtain ⟨T71, h71, X71, e71, W71, st71⟩ := putF X68 hx hZ hown (host := "") (Or.inl (tw hw 139 rfl)) Via.refl e68 F70 F69 (Or.inl (tw hw 140 rfl)) (tw hw 128 rfl) pf_0 rfl rfl (g := (mkF m 182 #[rv u, rv q, rv u, rv b1, iv z_9, iv 0, iv 0, iv 0, rv u, iv 1, iv z_49, iv 1, iv 1] [.int 1, .ref b1])) rfl rfl d182
  have N71 := Fr.snoc X71 N68 (Nat.le_trans (Nat.le_trans Z0 (Nat.le_refl _)) (Nat.le_of_eq g1.symm))
  have Fw71 : Fld Z h71 b1 "java/math/MutableBigInteger" "intLen" "I" (.int (1 : Int32)) := F70.same W71
  refine zt 185 [] st71 ?_
  refine zR X71 hx d185 rfl rfl 186 rfl ?_
  refine zK X71 hx d186 0 rfl 187 rfl ?_
  have F72 := (F69.wr W71)
  have F73 := (((f2_3.keep K50 (ninS (Ne.symm (Nat.ne_of_lt (Nat.lt_of_lt_of_le p_Exa_u.lt (Nat.le_of_eq g1.symm)))) (ninS (Ne.symm (Nat.ne_of_lt (Nat.lt_of_lt_of_le p_Arv_ua.lt (Nat.le_of_eq g1.symm)))) nin0))).other W68 (Or.inl (Nat.ne_of_lt (Nat.lt_of_lt_of_le A1.lt f2_6)))).other W71 (Or.inr (sn_java_math_MutableBigInteger_offset__intLen hw)))
  obtain ⟨T74, h74, X74, e74, W74, st74⟩ := putF X71 hx hZ hown (host := "") (Or.inl (tw hw 135 rfl)) Via.refl e71 F73 F72 (Or.inl (tw hw 136 rfl)) (tw hw 128 rfl) pf_0 rfl rfl (g := (mkF m 187 #[rv u, rv q, rv u, rv b1, iv z_9, iv 0, iv 0, iv 0, rv u, iv 1, iv z_49, iv 1, iv 1] [.int 0, .ref b1])) rfl rfl d187
  have N74 := Fr.snoc X74 N71 (Nat.le_trans (Nat.le_trans Z0 (Nat.le_refl _)) (Nat.le_of_eq g1.symm))
  have Fw74 : Fld Z h74 b1 "java/math/MutableBigInteger" "offset" "I" (.int (0 : Int32)) := F73.same W74
  refine zt 190 [] st74 ?_
  refine zI2 X74 hx d190 rfl 192 rfl ?_
  refine zY X74 hx d192 ((if0 _ _).trans (flt (by decide : ¬ ((0 : Int32) < (0 : Int32)))).2.2.2) 201 (by decide) ?_
  refine zR X74 hx d201 rfl rfl 202 rfl ?_
  have F75 := (F72.wr W74)
  have F76 := (((F64.other W68 (Or.inl (Nat.ne_of_lt (Nat.lt_of_lt_of_le A1.lt f2_6)))).other W71 (Or.inr (sn_java_math_MutableBigInteger_value__intLen hw))).other W74 (Or.inr (sn_java_math_MutableBigInteger_value__offset hw)))
  have F77 := (Fw71.other W74 (Or.inr (sn_java_math_MutableBigInteger_intLen__offset hw)))
  have F78 := ((V68.other W71 (Ne.symm (Nat.ne_of_lt (Nat.lt_of_lt_of_le A1.lt f2_6)))).other W74 (Ne.symm (Nat.ne_of_lt (Nat.lt_of_lt_of_le A1.lt f2_6))))
  have F79 := ((((f2_5.keep K50).wr W68).wr W71).wr W74)
  exact own_finR X74 hx hlk hre rfl rfl d202 e74 ⟨b1, ra_2, kr_2, rfl, N74, ((((((Keep.refl h0 [u, ua, q]).trans K3 all0).trans K50 (allS (Or.inl (List.mem_of_getElem? (i := 0) rfl)) (allS (Or.inl (List.mem_of_getElem? (i := 1) rfl)) all0))).wr W68 (Or.inr (Nat.le_trans E1.1 f2_6))).wr W71 (Or.inr (Nat.le_trans (Nat.le_refl _) (Nat.le_of_eq g1.symm)))).wr W74 (Or.inr (Nat.le_trans (Nat.le_refl _) (Nat.le_of_eq g1.symm)))), F75, F76, F77, Fw74, F78, F79, (Nat.le_trans (Nat.le_refl _) (Nat.le_of_eq g1.symm)), (Nat.le_trans E1.1 f2_6)⟩ (by decide) (by decide)
def QrmBG2 (Z : State) (u : Addr) (ua : Addr) (k : ClassId) (q : Addr) (qa : Addr) (kq : ClassId) (x : Int32) (y : Int32) (h0 : Heap) (n0 : Nat) (v : Option Value) (h : Heap) (L : List Loc) : Prop := ∃ r : Addr, ∃ ra : Addr, ∃ kr : ClassId, v = some (.ref r) ∧ Fr n0 L ∧ Keep h0 h [u, ua, q] ∧ (Exa Z h r "java/math/MutableBigInteger") ∧ (Fld Z h r "java/math/MutableBigInteger" "value" "[I" (.ref ra)) ∧ (Fld Z h r "java/math/MutableBigInteger" "intLen" "I" (.int (1 : Int32))) ∧ (Fld Z h r "java/math/MutableBigInteger" "offset" "I" (.int (0 : Int32))) ∧ (Arv Z h ra kr .int (1 : Int32) [(.int (1 : Int32))] (.int (0 : Int32))) ∧ (Exa Z h ra "[I") ∧ (h0.size ≤ r) ∧ (h0.size ≤ ra)
abbrev RrmBG2 : Room := { frames := 3, cells := 2, slots := 4, locals := 42 }
theorem rmBG2 (l : Launch) (Z : State) (a0 : Array Value) (hw : ∀ d ∈ tables_1, d.before a0 Z = true) (ws : List Jvm.Cond) (u : Addr) (ua : Addr) (k : ClassId) (q : Addr) (qa : Addr) (kq : ClassId) (x : Int32) (y : Int32) (h0 : Heap) (n0 : Nat) (Z0 : n0 ≤ h0.size)  (p_Exa_u : Exa Z h0 u "java/math/MutableBigInteger") (p_Fld_u_value : Fld Z h0 u "java/math/MutableBigInteger" "value" "[I" (.ref ua)) (p_Fld_u_intLen : Fld Z h0 u "java/math/MutableBigInteger" "intLen" "I" (.int (2 : Int32))) (p_Fld_u_offset : Fld Z h0 u "java/math/MutableBigInteger" "offset" "I" (.int (0 : Int32))) (p_Arv_ua : Arv Z h0 ua k .int (2 : Int32) [(.int x), (.int y)] (.int (0 : Int32))) (p_Exa_q : Exa Z h0 q "java/math/MutableBigInteger") (p_Fld_q_value : Fld Z h0 q "java/math/MutableBigInteger" "value" "[I" (.ref qa)) (p_Fld_q_intLen : Fld Z h0 q "java/math/MutableBigInteger" "intLen" "I" (.int (1 : Int32))) (p_Fld_q_offset : Fld Z h0 q "java/math/MutableBigInteger" "offset" "I" (.int (0 : Int32))) (p_Arv_qa : Arv Z h0 qa kq .int (1 : Int32) [(.int (1 : Int32))] (.int (0 : Int32))) (hz : ¬ x = (0 : Int32)) (ge1 : n0 ≤ u) (ge2 : n0 ≤ ua) (ge3 : n0 ≤ q) (ne1 : ua ≠ u) (ne2 : qa ≠ ua) (ne3 : q ≠ ua) (ne4 : qa ≠ u) (ne5 : q ≠ u) (ne6 : qa ≠ q) : Mf l Z Nm12 jdk_2101_method_73_code 13 (Option.some (Jvm.ClassFile.FieldType.object "java/math/MutableBigInteger")) ws RrmBG2 #[(.ref u), (.ref q)] h0 (QrmBG2 Z u ua k q qa kq x y h0 n0) := by
 refine own_entry (plainFor_of_name pn_java_math_MutableBigInteger) #[rv u, rv q, .unset, .unset, .unset, .unset, .unset, .unset, .unset, .unset, .unset, .unset, .unset] (fun _ => rfl) fun p e s m below meth c s₁ hx hby hml hown hnm hlk hre hZ X0 e0 => ?_
 have N0 := Fr.nil n0
 obtain ⟨d0, d1, d2, d5, d6, d9, d10, d11, d14, d16, d17, d20, d22, d24, d26, d34, d36, d38, d40, d55, d57, d59, d62, d63, d66, d67, d69, d71, d74, d75, d78, d79, d81, d83, d86, d87, d90, d91, d93, d95, d98, d99, d101, d104, d106, d108, d111, d113, d116, d118, d119, d122, d124, d125, d126, d129, d130, d133, d134, d137, d138, d141, d142, d145, d146, d149, d150, d152, d153, d156, d157, d160, d161, d163, d165, d167, d170, d172, d173, d176, d177, d179, d180, d181, d182, d185, d186, d187, d190, d192, d201, d202, d203, d204, d205, d208, d209, d211, d217, d219, d222, d223, d227, d229, -⟩ := D_12 hby
 refine zR X0 hx d0 rfl rfl 1 rfl ?_
 refine zl 2 _ [] (fun t k => XS.astoreN X0.here hx rfl d1 rfl rfl (l' := #[rv u, rv q, rv u, .unset, .unset, .unset, .unset, .unset, .unset, .unset, .unset, .unset, .unset]) rfl k) ?_
 obtain ⟨T1, h1, X1, e1, E1, A1, D1, -, st1⟩ := newO X0 hx hZ hown (tw hw 204 rfl) (tw hw 128 rfl) (tw hw 129 rfl) e0 (g := (mkF m 2 #[rv u, rv q, rv u, .unset, .unset, .unset, .unset, .unset, .unset, .unset, .unset, .unset, .unset] [])) rfl d2 (by decide) (by decide)
 obtain ⟨b1, g1⟩ : ∃ z, z = h0.size := ⟨_, rfl⟩
 rw [← g1] at A1 D1 st1
 have X1 := own_reX X1 (rfl : _ = 1) (rfl : _ = 3)
 refine zt 5 [.ref b1] st1 ?_
 refine zD X1 hx d5 rfl 6 rfl ?_
 refine zCI X1 hx hZ hml rfl rfl hown (tw hw 205 rfl) (tw hw 131 rfl) (tw hw 129 rfl) (tw hw 133 rfl) (rmMi0 l Z a0 hw [] b1 h1 n0 (Nat.le_trans Z0 E1.1) A1 (D1 (Or.inl (tw hw 138 rfl)) pf_1) (D1 (Or.inl (tw hw 140 rfl)) pf_0) (D1 (Or.inl (tw hw 136 rfl)) pf_0) (Nat.le_trans (Nat.le_trans Z0 (Nat.le_refl _)) (Nat.le_of_eq g1.symm))) 1 (by decide) b1 [.ref b1] rfl rfl (lenOf pd_2 rfl) rfl (Nat.le_of_eq rfl) e1 d6 9 rfl fun T2 L2 v2 X2 ⟨Lc2, hQ2, l2⟩ => ?_
 have X2 := own_reX X2 (rfl : _ = 2) (rfl : _ = 4)
 obtain ⟨ra_2, kr_2, rfl, Nq2, K2, f2_0, f2_1, f2_2, f2_3, f2_4, f2_5, f2_6⟩ := hQ2
 have N2 := own_frApp N0 Nq2 l2
 refine zx [.ref b1] rfl ?_
 have K3 : Keep h0 T2.heap [] := (((Keep.refl h0 []).ext E1).trans K2 (allS (Or.inr (Nat.le_trans (Nat.le_refl _) (Nat.le_of_eq g1.symm))) all0))
 refine zl 10 _ [] (fun t k => XS.astoreN X2.here hx rfl d9 rfl rfl (l' := #[rv u, rv q, rv u, rv b1, .unset, .unset, .unset, .unset, .unset, .unset, .unset, .unset, .unset]) rfl k) ?_
 refine zR X2 hx d10 rfl rfl 11 rfl ?_
 have F4 := (p_Exa_u.keep K3)
 have F5 := (p_Fld_u_value.keep K3 nin0)
 have F6 := (p_Fld_u_intLen.keep K3 nin0)
 have F7 := (p_Fld_u_offset.keep K3 nin0)
 have F8 := (p_Arv_ua.keep K3 nin0)
 refine zCP X2 hx hZ hml hown (tw hw 215 rfl) (tw hw 217 rfl) (tw hw 129 rfl) (tw hw 219 rfl) (tw hw 218 rfl) (tw hw 216 rfl) (rmGls2 l Z a0 hw [] u ua k x y T2.heap n0 (Nat.le_trans Z0 K3.1) F4 F5 F6 F7 F8 hz) 0 (by decide) u [] rfl rfl (lenOf pd_4 rfl) rfl (Nat.le_of_eq rfl) rfl F4 d11 14 rfl fun T9 L9 v9 X9 ⟨Lc9, hQ9, l9⟩ => ?_
 obtain ⟨z_9, rfl, Nq9, eh9, f9_0⟩ := hQ9
 have N9 := own_frApp N2 Nq9 l9
 refine zx [.int z_9] rfl ?_
 refine zl 16 _ [] (fun t k => XS.istore X9.here hx rfl d14 rfl (l' := #[rv u, rv q, rv u, rv b1, iv z_9, .unset, .unset, .unset, .unset, .unset, .unset, .unset, .unset]) rfl k) ?_
 refine zR X9 hx d16 rfl rfl 17 rfl ?_
 have F10 := (p_Exa_q.keep K3)
 have F11 := (p_Fld_q_value.keep K3 nin0)
 have F12 := (p_Fld_q_intLen.keep K3 nin0)
 have F13 := (p_Fld_q_offset.keep K3 nin0)
 have F14 := (p_Arv_qa.keep K3 nin0)
 refine zCP X9 hx hZ hml hown (tw hw 215 rfl) (tw hw 217 rfl) (tw hw 129 rfl) (tw hw 219 rfl) (tw hw 218 rfl) (tw hw 216 rfl) (rmGls1 l Z a0 hw [] q qa kq T2.heap n0 (Nat.le_trans Z0 K3.1) F10 F11 F12 F13 F14) 0 (by decide) q [] rfl rfl (lenOf pd_4 rfl) rfl (Nat.le_of_eq rfl) eh9 F10 d17 20 rfl fun T15 L15 v15 X15 ⟨Lc15, hQ15, l15⟩ => ?_
 obtain ⟨rfl, Nq15, eh15⟩ := hQ15
 have N15 := own_frApp N9 Nq15 l15
 refine zx [.int 0] rfl ?_
 refine zl 22 _ [] (fun t k => XS.istore X15.here hx rfl d20 rfl (l' := #[rv u, rv q, rv u, rv b1, iv z_9, iv 0, .unset, .unset, .unset, .unset, .unset, .unset, .unset]) rfl k) ?_
 refine zI2 X15 hx d22 rfl 24 rfl ?_
 refine zI2 X15 hx d24 rfl 26 rfl ?_
 refine zCY X15 hx d26 (flt (Gz.nonneg f9_0)).2.1 34 (by decide) ?_
 refine zI2 X15 hx d34 rfl 36 rfl ?_
 refine zl 38 _ [] (fun t k => XS.istore X15.here hx rfl d36 rfl (l' := #[rv u, rv q, rv u, rv b1, iv z_9, iv 0, iv 0, .unset, .unset, .unset, .unset, .unset, .unset]) rfl k) ?_
 refine zI2 X15 hx d38 rfl 40 rfl ?_
 refine zY X15 hx d40 ((if0 _ _).trans (teq (by decide : ((0 : Int32) = (0 : Int32)))).1) 55 (by decide) ?_
 have LP : ∀ (n : Nat) (o7 : Int32) (sl : Slot) (hsl : One sl) (x3 : Int32) (y3 : Int32) (T16 : State) (h16 : Heap) (L16 : List Loc) (X16 : Stand p l e RrmBG2 s m #[(.ref u), (.ref q)] below meth c T16 L16 2 4) (e16 : T16.heap = h16) (N16 : Fr n0 L16) (K16 : Keep T2.heap h16 [u, ua, q]) (lf17 : Exa Z h16 u "java/math/MutableBigInteger") (lf18 : Fld Z h16 u "java/math/MutableBigInteger" "value" "[I" (.ref ua)) (lf19 : Fld Z h16 u "java/math/MutableBigInteger" "intLen" "I" (.int (2 : Int32))) (lf20 : Fld Z h16 u "java/math/MutableBigInteger" "offset" "I" (.int (0 : Int32))) (lf21 : Arv Z h16 ua k .int (2 : Int32) [(.int x3), (.int y3)] (.int (0 : Int32))) (lf22 : Exa Z h16 q "java/math/MutableBigInteger") (lf23 : Fld Z h16 q "java/math/MutableBigInteger" "value" "[I" (.ref qa)) (lf24 : Fld Z h16 q "java/math/MutableBigInteger" "intLen" "I" (.int (1 : Int32))) (lf25 : Fld Z h16 q "java/math/MutableBigInteger" "offset" "I" (.int (0 : Int32))) (hx3 : ¬ x3 = (0 : Int32)) (hm : UI x3 * 4294967296 + UI y3 < n), Ends p.tables e below (fun o U' => ∃ v L, o = .returned v ∧ QrmBG2 Z u ua k q qa kq x y h0 n0 v U'.heap L ∧ FrameEnd s o U' L RrmBG2.cells RrmBG2.slots) (T16.setTop (mkF m 93 #[rv u, rv q, rv u, rv b1, iv z_9, iv 0, iv 0, iv o7, rv u, iv 1, sl, .unset, .unset] [])) := by
  intro n
  induction n with
  | zero => intro o7 sl hsl x3 y3 T16 h16 L16 X16 e16 N16 K16 lf17 lf18 lf19 lf20 lf21 lf22 lf23 lf24 lf25 hx3 hm; exact absurd hm (Nat.not_lt_zero _)
  | succ n IH =>
   intro o7 sl hsl x3 y3 T16 h16 L16 X16 e16 N16 K16 lf17 lf18 lf19 lf20 lf21 lf22 lf23 lf24 lf25 hx3 hm
   refine zR2 X16 hx d93 rfl rfl 95 rfl ?_
   refine zCP X16 hx hZ hml hown (tw hw 215 rfl) (tw hw 217 rfl) (tw hw 129 rfl) (tw hw 219 rfl) (tw hw 218 rfl) (tw hw 216 rfl) (rmGls2 l Z a0 hw [] u ua k x3 y3 h16 n0 (Nat.le_trans Z0 (Nat.le_trans K3.1 K16.1)) lf17 lf18 lf19 lf20 lf21 hx3) 0 (by decide) u [] rfl rfl (lenOf pd_4 rfl) rfl (Nat.le_of_eq rfl) e16 lf17 d95 98 rfl fun T26 L26 v26 X26 ⟨Lc26, hQ26, l26⟩ => ?_
   obtain ⟨z_26, rfl, Nq26, eh26, f26_0⟩ := hQ26
   have N26 := own_frApp N16 Nq26 l26
   refine zx [.int z_26] rfl ?_
   refine zD X26 hx d98 rfl 99 rfl ?_
   refine zl 101 _ [.int z_26] (fun t k => XS.istore X26.here hx rfl d99 rfl (l' := #[rv u, rv q, rv u, rv b1, iv z_9, iv 0, iv 0, iv o7, rv u, iv 1, iv z_26, .unset, .unset]) (XS.store1 (o := sl) rfl hsl rfl) k) ?_
   refine zN X26 hx d101 ((if0 _ _).trans (flt (Gz.nonneg f26_0)).1) 104 rfl ?_
   refine zR2 X26 hx d104 rfl rfl 106 rfl ?_
   refine zI2 X26 hx d106 rfl 108 rfl ?_
   refine zCV X26 hx hZ hml hown (tw hw 222 rfl) (tw hw 223 rfl) (tw hw 129 rfl) (tw hw 226 rfl) (tw hw 225 rfl) (tw hw 224 rfl) (rmRs2 l Z a0 hw [] u ua k x3 y3 z_26 h16 n0 (Nat.le_trans Z0 (Nat.le_trans K3.1 K16.1)) lf17 lf18 lf19 lf20 lf21 ge1 ge2 ne1 hx3 f26_0) 0 (by decide) u [] rfl rfl (lenOf pd_3 rfl) rfl (Nat.le_of_eq rfl) eh26 lf17 d108 111 rfl fun T27 L27 v27 X27 ⟨Lc27, hQ27, l27⟩ => ?_
   obtain ⟨t_27, x2_27, y2_27, rfl, Nq27, K27, f27_0, f27_1, f27_2, f27_3, f27_4, f27_5⟩ := hQ27
   have N27 := own_frApp N26 Nq27 l27
   refine zx [] rfl ?_
   obtain ⟨hxR, ht⟩ := id f27_5
   rcases ht with ht | ⟨ht, hyR, hleR⟩
   ·subst ht
    refine zI2 X27 hx d111 rfl 113 rfl ?_
    refine zN X27 hx d113 ((if0 _ _).trans (tlt (by decide : ((0 : Int32) < (1 : Int32)))).2.2.2) 116 rfl ?_
    refine zR2 X27 hx d116 rfl rfl 118 rfl ?_
    refine zl 119 _ [] (fun t k => XS.astoreN X27.here hx rfl d118 rfl rfl (l' := #[rv u, rv q, rv u, rv b1, iv z_9, iv 0, iv 0, iv o7, rv u, iv 1, iv z_26, .unset, .unset]) rfl k) ?_
    refine zG X27 hx d119 125 (by decide) ?_
    refine zR X27 hx d125 rfl rfl 126 rfl ?_
    refine zP X27 hx hZ hown (tw hw 139 rfl) rfl f27_2 d126 129 rfl fun T28 X28 e28 => ?_
    refine zK X28 hx d129 2 rfl 130 rfl ?_
    refine zCN X28 hx d130 (tlt (by decide : ((1 : Int32) < (2 : Int32)))).2.1 133 rfl ?_
    refine zR X28 hx d133 rfl rfl 134 rfl ?_
    have F29 := (lf24.keep K27 (ninS ne5 (ninS ne3 nin0)))
    refine zP X28 hx hZ hown (tw hw 139 rfl) e28 F29 d134 137 rfl fun T30 X30 e30 => ?_
    refine zK X30 hx d137 2 rfl 138 rfl ?_
    refine zCN X30 hx d138 (tlt (by decide : ((1 : Int32) < (2 : Int32)))).2.1 141 rfl ?_
    refine zR X30 hx d141 rfl rfl 142 rfl ?_
    refine zP X30 hx hZ hown (tw hw 137 rfl) e30 f27_1 d142 145 rfl fun T31 X31 e31 => ?_
    refine zR X31 hx d145 rfl rfl 146 rfl ?_
    refine zP X31 hx hZ hown (tw hw 135 rfl) e31 f27_3 d146 149 rfl fun T32 X32 e32 => ?_
    refine zIa X32 hx hZ e32 f27_4 (by decide) rfl d149 150 rfl ?_
    refine zl 152 _ [] (fun t k => XS.istore X32.here hx rfl d150 rfl (l' := #[rv u, rv q, rv u, rv b1, iv z_9, iv 0, iv 0, iv o7, rv u, iv 1, iv z_26, iv x2_27, .unset]) rfl k) ?_
    refine zR X32 hx d152 rfl rfl 153 rfl ?_
    have F34 := (lf23.keep K27 (ninS ne5 (ninS ne3 nin0)))
    refine zP X32 hx hZ hown (tw hw 137 rfl) e32 F34 d153 156 rfl fun T35 X35 e35 => ?_
    refine zR X35 hx d156 rfl rfl 157 rfl ?_
    have F36 := (lf25.keep K27 (ninS ne5 (ninS ne3 nin0)))
    refine zP X35 hx hZ hown (tw hw 135 rfl) e35 F36 d157 160 rfl fun T37 X37 e37 => ?_
    have F38 := ((F14.keep K16 (ninS ne4 (ninS ne2 (ninS ne6 nin0)))).keep K27 (ninS ne4 (ninS ne2 nin0)))
    refine zIa X37 hx hZ e37 F38 (by decide) rfl d160 161 rfl ?_
    refine zl 163 _ [] (fun t k => XS.istore X37.here hx rfl d161 rfl (l' := #[rv u, rv q, rv u, rv b1, iv z_9, iv 0, iv 0, iv o7, rv u, iv 1, iv z_26, iv x2_27, iv 1]) rfl k) ?_
    refine zI2 X37 hx d163 rfl 165 rfl ?_
    refine zI2 X37 hx d165 rfl 167 rfl ?_
    refine zCS X37 hx hZ hml hown (tw hw 238 rfl) (tw hw 239 rfl) (tw hw 129 rfl) (tw hw 240 rfl) (rmBg l Z a0 hw [] x2_27 T27.heap n0 (Nat.le_trans Z0 (Nat.le_trans (Nat.le_trans K3.1 K16.1) K27.1)) hxR) 0 (by decide) [] rfl (lenOf pd_5 rfl) rfl (Nat.le_of_eq rfl) e37 d167 170 rfl fun T40 L40 v40 X40 ⟨Lc40, hQ40, l40⟩ => ?_
    obtain ⟨rfl, Nq40, eh40⟩ := hQ40
    have N40 := own_frApp N27 Nq40 l40
    refine zx [.int 1] rfl ?_
    refine zl 172 _ [] (fun t k => XS.istore X40.here hx rfl d170 rfl (l' := #[rv u, rv q, rv u, rv b1, iv z_9, iv 0, iv 0, iv o7, rv u, iv 1, iv z_26, iv 1, iv 1]) rfl k) ?_
    refine zR X40 hx d172 rfl rfl 173 rfl ?_
    have F41 := ((f2_1.keep K16 (ninS (Ne.symm (Nat.ne_of_lt (Nat.lt_of_lt_of_le p_Exa_u.lt (Nat.le_of_eq g1.symm)))) (ninS (Ne.symm (Nat.ne_of_lt (Nat.lt_of_lt_of_le p_Arv_ua.lt (Nat.le_of_eq g1.symm)))) (ninS (Ne.symm (Nat.ne_of_lt (Nat.lt_of_lt_of_le p_Exa_q.lt (Nat.le_of_eq g1.symm)))) nin0)))).keep K27 (ninS (Ne.symm (Nat.ne_of_lt (Nat.lt_of_lt_of_le p_Exa_u.lt (Nat.le_of_eq g1.symm)))) (ninS (Ne.symm (Nat.ne_of_lt (Nat.lt_of_lt_of_le p_Arv_ua.lt (Nat.le_of_eq g1.symm)))) nin0)))
    refine zP X40 hx hZ hown (tw hw 137 rfl) eh40 F41 d173 176 rfl fun T42 X42 e42 => ?_
    refine zK X42 hx d176 0 rfl 177 rfl ?_
    refine zI2 X42 hx d177 rfl 179 rfl ?_
    have F43 := ((f2_4.keep K16 (ninS (Ne.symm (Nat.ne_of_lt (Nat.lt_of_lt_of_le (Nat.lt_of_lt_of_le p_Exa_u.lt E1.1) f2_6))) (ninS (Ne.symm (Nat.ne_of_lt (Nat.lt_of_lt_of_le (Nat.lt_of_lt_of_le p_Arv_ua.lt E1.1) f2_6))) (ninS (Ne.symm (Nat.ne_of_lt (Nat.lt_of_lt_of_le (Nat.lt_of_lt_of_le p_Exa_q.lt E1.1) f2_6))) nin0)))).keep K27 (ninS (Ne.symm (Nat.ne_of_lt (Nat.lt_of_lt_of_le (Nat.lt_of_lt_of_le p_Exa_u.lt E1.1) f2_6))) (ninS (Ne.symm (Nat.ne_of_lt (Nat.lt_of_lt_of_le (Nat.lt_of_lt_of_le p_Arv_ua.lt E1.1) f2_6))) nin0)))
    obtain ⟨cl44, Ar44, q44, S44, M44, H44, Gx44⟩ := id F43
    obtain ⟨T45, h45, X45, e45, W45, st45⟩ := stI X42 hx hZ e42 Ar44 (j := (0 : Int32)) (inb_of S44 ⟨by decide, by decide⟩) (g := (mkF m 179 #[rv u, rv q, rv u, rv b1, iv z_9, iv 0, iv 0, iv o7, rv u, iv 1, iv z_26, iv 1, iv 1] [.int 1, .int 0, .ref ra_2])) rfl rfl d179
    have N45 := Fr.snoc X45 N40 (Nat.le_trans (Nat.le_trans Z0 E1.1) f2_6)
    have V45 : Arv Z h45 ra_2 kr_2 .int (1 : Int32) [(.int (1 : Int32))] (.int (0 : Int32)) := Arv.set Ar44 q44 S44 M44 H44 Gx44 rfl W45 0 rfl (Nat.le_of_ble_eq_true rfl)
    refine zt 180 [] st45 ?_
    refine zR X45 hx d180 rfl rfl 181 rfl ?_
    refine zK X45 hx d181 1 rfl 182 rfl ?_
    have F46 := (((f2_0.keep K16).keep K27).wr W45)
    have F47 := (((f2_2.keep K16 (ninS (Ne.symm (Nat.ne_of_lt (Nat.lt_of_lt_of_le p_Exa_u.lt (Nat.le_of_eq g1.symm)))) (ninS (Ne.symm (Nat.ne_of_lt (Nat.lt_of_lt_of_le p_Arv_ua.lt (Nat.le_of_eq g1.symm)))) (ninS (Ne.symm (Nat.ne_of_lt (Nat.lt_of_lt_of_le p_Exa_q.lt (Nat.le_of_eq g1.symm)))) nin0)))).keep K27 (ninS (Ne.symm (Nat.ne_of_lt (Nat.lt_of_lt_of_le p_Exa_u.lt (Nat.le_of_eq g1.symm)))) (ninS (Ne.symm (Nat.ne_of_lt (Nat.lt_of_lt_of_le p_Arv_ua.lt (Nat.le_of_eq g1.symm)))) nin0))).other W45 (Or.inl (Nat.ne_of_lt (Nat.lt_of_lt_of_le A1.lt f2_6))))
    obtain ⟨T48, h48, X48, e48, W48, st48⟩ := putF X45 hx hZ hown (host := "") (Or.inl (tw hw 139 rfl)) Via.refl e45 F47 F46 (Or.inl (tw hw 140 rfl)) (tw hw 128 rfl) pf_0 rfl rfl (g := (mkF m 182 #[rv u, rv q, rv u, rv b1, iv z_9, iv 0, iv 0, iv o7, rv u, iv 1, iv z_26, iv 1, iv 1] [.int 1, .ref b1])) rfl rfl d182
    have N48 := Fr.snoc X48 N45 (Nat.le_trans (Nat.le_trans Z0 (Nat.le_refl _)) (Nat.le_of_eq g1.symm))
    have Fw48 : Fld Z h48 b1 "java/math/MutableBigInteger" "intLen" "I" (.int (1 : Int32)) := F47.same W48
    refine zt 185 [] st48 ?_
    refine zR X48 hx d185 rfl rfl 186 rfl ?_
    refine zK X48 hx d186 0 rfl 187 rfl ?_
    have F49 := (F46.wr W48)
    have F50 := ((((f2_3.keep K16 (ninS (Ne.symm (Nat.ne_of_lt (Nat.lt_of_lt_of_le p_Exa_u.lt (Nat.le_of_eq g1.symm)))) (ninS (Ne.symm (Nat.ne_of_lt (Nat.lt_of_lt_of_le p_Arv_ua.lt (Nat.le_of_eq g1.symm)))) (ninS (Ne.symm (Nat.ne_of_lt (Nat.lt_of_lt_of_le p_Exa_q.lt (Nat.le_of_eq g1.symm)))) nin0)))).keep K27 (ninS (Ne.symm (Nat.ne_of_lt (Nat.lt_of_lt_of_le p_Exa_u.lt (Nat.le_of_eq g1.symm)))) (ninS (Ne.symm (Nat.ne_of_lt (Nat.lt_of_lt_of_le p_Arv_ua.lt (Nat.le_of_eq g1.symm)))) nin0))).other W45 (Or.inl (Nat.ne_of_lt (Nat.lt_of_lt_of_le A1.lt f2_6)))).other W48 (Or.inr (sn_java_math_MutableBigInteger_offset__intLen hw)))
    obtain ⟨T51, h51, X51, e51, W51, st51⟩ := putF X48 hx hZ hown (host := "") (Or.inl (tw hw 135 rfl)) Via.refl e48 F50 F49 (Or.inl (tw hw 136 rfl)) (tw hw 128 rfl) pf_0 rfl rfl (g := (mkF m 187 #[rv u, rv q, rv u, rv b1, iv z_9, iv 0, iv 0, iv o7, rv u, iv 1, iv z_26, iv 1, iv 1] [.int 0, .ref b1])) rfl rfl d187
    have N51 := Fr.snoc X51 N48 (Nat.le_trans (Nat.le_trans Z0 (Nat.le_refl _)) (Nat.le_of_eq g1.symm))
    have Fw51 : Fld Z h51 b1 "java/math/MutableBigInteger" "offset" "I" (.int (0 : Int32)) := F50.same W51
    refine zt 190 [] st51 ?_
    refine zI2 X51 hx d190 rfl 192 rfl ?_
    refine zY X51 hx d192 ((if0 _ _).trans (flt (by decide : ¬ ((0 : Int32) < (0 : Int32)))).2.2.2) 201 (by decide) ?_
    refine zR X51 hx d201 rfl rfl 202 rfl ?_
    have F52 := (F49.wr W51)
    have F53 := (((F41.other W45 (Or.inl (Nat.ne_of_lt (Nat.lt_of_lt_of_le A1.lt f2_6)))).other W48 (Or.inr (sn_java_math_MutableBigInteger_value__intLen hw))).other W51 (Or.inr (sn_java_math_MutableBigInteger_value__offset hw)))
    have F54 := (Fw48.other W51 (Or.inr (sn_java_math_MutableBigInteger_intLen__offset hw)))
    have F55 := ((V45.other W48 (Ne.symm (Nat.ne_of_lt (Nat.lt_of_lt_of_le A1.lt f2_6)))).other W51 (Ne.symm (Nat.ne_of_lt (Nat.lt_of_lt_of_le A1.lt f2_6))))
    have F56 := (((((f2_5.keep K16).keep K27).wr W45).wr W48).wr W51)
    exact own_finR X51 hx hlk hre rfl rfl d202 e51 ⟨b1, ra_2, kr_2, rfl, N51, (((((((Keep.refl h0 [u, ua, q]).trans K3 all0).trans K16 (allS (Or.inl (List.mem_of_getElem? (i := 0) rfl)) (allS (Or.inl (List.mem_of_getElem? (i := 1) rfl)) (allS (Or.inl (List.mem_of_getElem? (i := 2) rfl)) all0)))).trans K27 (allS (Or.inl (List.mem_of_getElem? (i := 0) rfl)) (allS (Or.inl (List.mem_of_getElem? (i := 1) rfl)) all0))).wr W45 (Or.inr (Nat.le_trans E1.1 f2_6))).wr W48 (Or.inr (Nat.le_trans (Nat.le_refl _) (Nat.le_of_eq g1.symm)))).wr W51 (Or.inr (Nat.le_trans (Nat.le_refl _) (Nat.le_of_eq g1.symm)))), F52, F53, F54, Fw51, F55, F56, (Nat.le_trans (Nat.le_refl _) (Nat.le_of_eq g1.symm)), (Nat.le_trans E1.1 f2_6)⟩ (by decide) (by decide)
   ·subst ht
    refine zI2 X27 hx d111 rfl 113 rfl ?_
    refine zN X27 hx d113 ((if0 _ _).trans (tlt (by decide : ((0 : Int32) < (1 : Int32)))).2.2.2) 116 rfl ?_
    refine zR2 X27 hx d116 rfl rfl 118 rfl ?_
    refine zl 119 _ [] (fun t k => XS.astoreN X27.here hx rfl d118 rfl rfl (l' := #[rv u, rv q, rv u, rv b1, iv z_9, iv 0, iv 0, iv o7, rv u, iv 1, iv z_26, .unset, .unset]) rfl k) ?_
    refine zG X27 hx d119 125 (by decide) ?_
    refine zR X27 hx d125 rfl rfl 126 rfl ?_
    refine zP X27 hx hZ hown (tw hw 139 rfl) rfl f27_2 d126 129 rfl fun T57 X57 e57 => ?_
    refine zK X57 hx d129 2 rfl 130 rfl ?_
    refine zCY X57 hx d130 (flt (by decide : ¬ ((2 : Int32) < (2 : Int32)))).2.1 203 (by decide) ?_
    refine zR X57 hx d203 rfl rfl 204 rfl ?_
    refine zR X57 hx d204 rfl rfl 205 rfl ?_
    have F58 := (lf22.keep K27)
    have F59 := (lf23.keep K27 (ninS ne5 (ninS ne3 nin0)))
    have F60 := (lf24.keep K27 (ninS ne5 (ninS ne3 nin0)))
    have F61 := (lf25.keep K27 (ninS ne5 (ninS ne3 nin0)))
    have F62 := ((F14.keep K16 (ninS ne4 (ninS ne2 (ninS ne6 nin0)))).keep K27 (ninS ne4 (ninS ne2 nin0)))
    refine zCP X57 hx hZ hml hown (tw hw 293 rfl) (tw hw 295 rfl) (tw hw 129 rfl) (tw hw 297 rfl) (tw hw 296 rfl) (tw hw 294 rfl) (rmDif l Z a0 hw [] u ua k q qa kq x2_27 y2_27 T27.heap n0 (Nat.le_trans Z0 (Nat.le_trans (Nat.le_trans K3.1 K16.1) K27.1)) f27_0 f27_1 f27_2 f27_3 f27_4 F58 F59 F60 F61 F62 hxR hyR ge2 ne1 ne2 ne3) 0 (by decide) u [] rfl rfl (lenOf pd_1 rfl) rfl (Nat.le_of_eq rfl) e57 f27_0 d205 208 rfl fun T63 L63 v63 X63 ⟨Lc63, hQ63, l63⟩ => ?_
    obtain ⟨y2_63, rfl, Nq63, K63, f63_0, f63_1⟩ := hQ63
    have N63 := own_frApp N27 Nq63 l63
    refine zx [.int 1] rfl ?_
    refine zD X63 hx d208 rfl 209 rfl ?_
    refine zl 211 _ [.int 1] (fun t k => XS.istore X63.here hx rfl d209 rfl (l' := #[rv u, rv q, rv u, rv b1, iv z_9, iv 0, iv 0, iv o7, rv u, iv 1, iv z_26, .unset, .unset]) rfl k) ?_
    refine zY X63 hx d211 ((if0 _ _).trans (feq (by decide : ¬ ((1 : Int32) = (0 : Int32)))).2) 217 (by decide) ?_
    refine zI2 X63 hx d217 rfl 219 rfl ?_
    refine zN X63 hx d219 ((if0 _ _).trans (flt (by decide : ¬ ((1 : Int32) < (0 : Int32)))).1) 222 rfl ?_
    refine zR X63 hx d222 rfl rfl 223 rfl ?_
    refine zG X63 hx d223 227 (by decide) ?_
    refine zl 229 _ [] (fun t k => XS.astore X63.here hx rfl d227 rfl rfl (l' := #[rv u, rv q, rv u, rv b1, iv z_9, iv 0, iv 0, iv o7, rv u, iv 1, iv z_26, .unset, .unset]) rfl k) ?_
    refine zG X63 hx d229 93 (by decide) ?_
    have F64 := (f27_0.keep K63)
    have F65 := (f27_1.keep K63 (ninS (Ne.symm ne1) nin0))
    have F66 := (f27_2.keep K63 (ninS (Ne.symm ne1) nin0))
    have F67 := (f27_3.keep K63 (ninS (Ne.symm ne1) nin0))
    have F68 := (F58.keep K63)
    have F69 := (F59.keep K63 (ninS ne3 nin0))
    have F70 := (F60.keep K63 (ninS ne3 nin0))
    have F71 := (F61.keep K63 (ninS ne3 nin0))
    exact IH  o7 (Slot.val (.int z_26)) (One.val rfl) x2_27 y2_63 T63 T63.heap _ X63 rfl N63 ((((Keep.refl T2.heap [u, ua, q]).trans K16 (allS (Or.inl (List.mem_of_getElem? (i := 0) rfl)) (allS (Or.inl (List.mem_of_getElem? (i := 1) rfl)) (allS (Or.inl (List.mem_of_getElem? (i := 2) rfl)) all0)))).trans K27 (allS (Or.inl (List.mem_of_getElem? (i := 0) rfl)) (allS (Or.inl (List.mem_of_getElem? (i := 1) rfl)) all0))).trans K63 (allS (Or.inl (List.mem_of_getElem? (i := 1) rfl)) all0)) F64 F65 F66 F67 f63_0 F68 F69 F70 F71 hxR (rs_meas hleR f63_1 hm)
 refine zI2 X15 hx d55 rfl 57 rfl ?_
 refine zI2 X15 hx d57 rfl 59 rfl ?_
 by_cases c72 : (0 : Int32) = z_9
 ·refine zCN X15 hx d59 (teq c72).2 62 rfl ?_
  refine zK X15 hx d62 1 rfl 63 rfl ?_
  refine zG X15 hx d63 67 (by decide) ?_
  refine zl 69 _ [] (fun t k => XS.istore X15.here hx rfl d67 rfl (l' := #[rv u, rv q, rv u, rv b1, iv z_9, iv 0, iv 0, iv 1, .unset, .unset, .unset, .unset, .unset]) rfl k) ?_
  refine zI2 X15 hx d69 rfl 71 rfl ?_
  refine zN X15 hx d71 ((if0 _ _).trans (feq (by decide : ¬ ((1 : Int32) = (0 : Int32)))).1) 74 rfl ?_
  refine zR X15 hx d74 rfl rfl 75 rfl ?_
  refine zG X15 hx d75 79 (by decide) ?_
  refine zl 81 _ [] (fun t k => XS.astore X15.here hx rfl d79 rfl rfl (l' := #[rv u, rv q, rv u, rv b1, iv z_9, iv 0, iv 0, iv 1, rv q, .unset, .unset, .unset, .unset]) rfl k) ?_
  refine zI2 X15 hx d81 rfl 83 rfl ?_
  refine zN X15 hx d83 ((if0 _ _).trans (feq (by decide : ¬ ((1 : Int32) = (0 : Int32)))).1) 86 rfl ?_
  refine zK X15 hx d86 (-1 : Int32) rfl 87 rfl ?_
  refine zG X15 hx d87 91 (by decide) ?_
  refine zl 93 _ [] (fun t k => XS.istore X15.here hx rfl d91 rfl (l' := #[rv u, rv q, rv u, rv b1, iv z_9, iv 0, iv 0, iv 1, rv q, iv (-1), .unset, .unset, .unset]) rfl k) ?_
  refine zR2 X15 hx d93 rfl rfl 95 rfl ?_
  refine zCP X15 hx hZ hml hown (tw hw 215 rfl) (tw hw 217 rfl) (tw hw 129 rfl) (tw hw 219 rfl) (tw hw 218 rfl) (tw hw 216 rfl) (rmGls1 l Z a0 hw [] q qa kq T2.heap n0 (Nat.le_trans Z0 K3.1) F10 F11 F12 F13 F14) 0 (by decide) q [] rfl rfl (lenOf pd_4 rfl) rfl (Nat.le_of_eq rfl) eh15 F10 d95 98 rfl fun T73 L73 v73 X73 ⟨Lc73, hQ73, l73⟩ => ?_
  obtain ⟨rfl, Nq73, eh73⟩ := hQ73
  have N73 := own_frApp N15 Nq73 l73
  refine zx [.int 0] rfl ?_
  refine zD X73 hx d98 rfl 99 rfl ?_
  refine zl 101 _ [.int 0] (fun t k => XS.istore X73.here hx rfl d99 rfl (l' := #[rv u, rv q, rv u, rv b1, iv z_9, iv 0, iv 0, iv 1, rv q, iv (-1), iv 0, .unset, .unset]) rfl k) ?_
  refine zN X73 hx d101 ((if0 _ _).trans (flt (by decide : ¬ ((0 : Int32) < (0 : Int32)))).1) 104 rfl ?_
  refine zR2 X73 hx d104 rfl rfl 106 rfl ?_
  refine zI2 X73 hx d106 rfl 108 rfl ?_
  refine zCV X73 hx hZ hml hown (tw hw 222 rfl) (tw hw 223 rfl) (tw hw 129 rfl) (tw hw 226 rfl) (tw hw 225 rfl) (tw hw 224 rfl) (rmRs0 l Z a0 hw [] q qa T2.heap n0 (Nat.le_trans Z0 K3.1) F10 F11 F12 F13 ge3) 0 (by decide) q [] rfl rfl (lenOf pd_3 rfl) rfl (Nat.le_of_eq rfl) eh73 F10 d108 111 rfl fun T74 L74 v74 X74 ⟨Lc74, hQ74, l74⟩ => ?_
  obtain ⟨rfl, Nq74, K74, f74_0, f74_1, f74_2, f74_3⟩ := hQ74
  have N74 := own_frApp N73 Nq74 l74
  refine zx [] rfl ?_
  refine zI2 X74 hx d111 rfl 113 rfl ?_
  refine zY X74 hx d113 ((if0 _ _).trans (flt (by decide : ¬ ((0 : Int32) < (-1 : Int32)))).2.2.2) 122 (by decide) ?_
  refine zR2 X74 hx d122 rfl rfl 124 rfl ?_
  refine zl 125 _ [] (fun t k => XS.astoreN X74.here hx rfl d124 rfl rfl (l' := #[rv u, rv q, rv u, rv b1, iv z_9, iv 0, iv 0, iv 1, rv q, iv (-1), iv 0, .unset, .unset]) rfl k) ?_
  refine zR X74 hx d125 rfl rfl 126 rfl ?_
  have F75 := (F6.keep K74 (ninS (Ne.symm ne5) nin0))
  refine zP X74 hx hZ hown (tw hw 139 rfl) rfl F75 d126 129 rfl fun T76 X76 e76 => ?_
  refine zK X76 hx d129 2 rfl 130 rfl ?_
  refine zCY X76 hx d130 (flt (by decide : ¬ ((2 : Int32) < (2 : Int32)))).2.1 203 (by decide) ?_
  refine zR X76 hx d203 rfl rfl 204 rfl ?_
  refine zR X76 hx d204 rfl rfl 205 rfl ?_
  have F77 := (F4.keep K74)
  have F78 := (F5.keep K74 (ninS (Ne.symm ne5) nin0))
  have F79 := (F7.keep K74 (ninS (Ne.symm ne5) nin0))
  have F80 := (F8.keep K74 (ninS (Ne.symm ne3) nin0))
  have F81 := (F14.keep K74 (ninS ne6 nin0))
  refine zCP X76 hx hZ hml hown (tw hw 293 rfl) (tw hw 295 rfl) (tw hw 129 rfl) (tw hw 297 rfl) (tw hw 296 rfl) (tw hw 294 rfl) (rmDif l Z a0 hw [] u ua k q qa kq x y T74.heap n0 (Nat.le_trans Z0 (Nat.le_trans K3.1 K74.1)) F77 F78 F75 F79 F80 f74_0 f74_1 f74_2 f74_3 F81 hz (Gz.odd f9_0 c72) ge2 ne1 ne2 ne3) 0 (by decide) u [] rfl rfl (lenOf pd_1 rfl) rfl (Nat.le_of_eq rfl) e76 F77 d205 208 rfl fun T82 L82 v82 X82 ⟨Lc82, hQ82, l82⟩ => ?_
  obtain ⟨y2_82, rfl, Nq82, K82, f82_0, f82_1⟩ := hQ82
  have N82 := own_frApp N74 Nq82 l82
  refine zx [.int 1] rfl ?_
  refine zD X82 hx d208 rfl 209 rfl ?_
  refine zl 211 _ [.int 1] (fun t k => XS.istore X82.here hx rfl d209 rfl (l' := #[rv u, rv q, rv u, rv b1, iv z_9, iv 0, iv 0, iv 1, rv q, iv 1, iv 0, .unset, .unset]) rfl k) ?_
  refine zY X82 hx d211 ((if0 _ _).trans (feq (by decide : ¬ ((1 : Int32) = (0 : Int32)))).2) 217 (by decide) ?_
  refine zI2 X82 hx d217 rfl 219 rfl ?_
  refine zN X82 hx d219 ((if0 _ _).trans (flt (by decide : ¬ ((1 : Int32) < (0 : Int32)))).1) 222 rfl ?_
  refine zR X82 hx d222 rfl rfl 223 rfl ?_
  refine zG X82 hx d223 227 (by decide) ?_
  refine zl 229 _ [] (fun t k => XS.astore X82.here hx rfl d227 rfl rfl (l' := #[rv u, rv q, rv u, rv b1, iv z_9, iv 0, iv 0, iv 1, rv u, iv 1, iv 0, .unset, .unset]) rfl k) ?_
  refine zG X82 hx d229 93 (by decide) ?_
  have F83 := (F77.keep K82)
  have F84 := (F78.keep K82 (ninS (Ne.symm ne1) nin0))
  have F85 := (F75.keep K82 (ninS (Ne.symm ne1) nin0))
  have F86 := (F79.keep K82 (ninS (Ne.symm ne1) nin0))
  have F87 := (f74_0.keep K82)
  have F88 := (f74_1.keep K82 (ninS ne3 nin0))
  have F89 := (f74_2.keep K82 (ninS ne3 nin0))
  have F90 := (f74_3.keep K82 (ninS ne3 nin0))
  exact LP _ (1 : Int32) (Slot.val (.int (0 : Int32))) (One.val rfl) x y2_82 T82 T82.heap _ X82 rfl N82 (((Keep.refl T2.heap [u, ua, q]).trans K74 (allS (Or.inl (List.mem_of_getElem? (i := 2) rfl)) all0)).trans K82 (allS (Or.inl (List.mem_of_getElem? (i := 1) rfl)) all0)) F83 F84 F85 F86 f82_0 F87 F88 F89 F90 hz (Nat.lt_succ_self _)
 ·refine zCY X15 hx d59 (feq c72).2 66 (by decide) ?_
  refine zK X15 hx d66 0 rfl 67 rfl ?_
  refine zl 69 _ [] (fun t k => XS.istore X15.here hx rfl d67 rfl (l' := #[rv u, rv q, rv u, rv b1, iv z_9, iv 0, iv 0, iv 0, .unset, .unset, .unset, .unset, .unset]) rfl k) ?_
  refine zI2 X15 hx d69 rfl 71 rfl ?_
  refine zY X15 hx d71 ((if0 _ _).trans (teq (by decide : ((0 : Int32) = (0 : Int32)))).1) 78 (by decide) ?_
  refine zR X15 hx d78 rfl rfl 79 rfl ?_
  refine zl 81 _ [] (fun t k => XS.astore X15.here hx rfl d79 rfl rfl (l' := #[rv u, rv q, rv u, rv b1, iv z_9, iv 0, iv 0, iv 0, rv u, .unset, .unset, .unset, .unset]) rfl k) ?_
  refine zI2 X15 hx d81 rfl 83 rfl ?_
  refine zY X15 hx d83 ((if0 _ _).trans (teq (by decide : ((0 : Int32) = (0 : Int32)))).1) 90 (by decide) ?_
  refine zK X15 hx d90 1 rfl 91 rfl ?_
  refine zl 93 _ [] (fun t k => XS.istore X15.here hx rfl d91 rfl (l' := #[rv u, rv q, rv u, rv b1, iv z_9, iv 0, iv 0, iv 0, rv u, iv 1, .unset, .unset, .unset]) rfl k) ?_
  exact LP _ (0 : Int32) (Slot.unset) One.u x y T15 T2.heap _ X15 eh15 N15 (Keep.refl T2.heap [u, ua, q]) F4 F5 F6 F7 F8 F10 F11 F12 F13 hz (Nat.lt_succ_self _)
def QrmAbs0 (Z : State)  (h0 : Heap) (n0 : Nat) (v : Option Value) (h : Heap) (L : List Loc) : Prop := v = some (.int (0 : Int32)) ∧ Fr n0 L ∧ h = h0
abbrev RrmAbs0 : Room := { frames := 0, cells := 0, slots := 0, locals := 0 }
theorem rmAbs0 (l : Launch) (Z : State) (a0 : Array Value) (hw : ∀ d ∈ tables_1, d.before a0 Z = true) (ws : List Jvm.Cond)  (h0 : Heap) (n0 : Nat) (Z0 : n0 ≤ h0.size)   : Mf l Z Nm13 jdk_29_method_59_code 1 (Option.some Jvm.ClassFile.FieldType.int) ws RrmAbs0 #[(.int (0 : Int32))] h0 (QrmAbs0 Z  h0 n0) := by
 refine own_entry pfor_rmAbs0 #[iv 0] (fun _ => rfl) fun p e s m below meth c s₁ hx hby hml hown hnm hlk hre hZ X0 e0 => ?_
 have N0 := Fr.nil n0
 obtain ⟨d0, d1, d9, d10, -⟩ := D_13 hby
 refine zI X0 hx d0 rfl 1 rfl ?_
 refine zY X0 hx d1 ((if0 _ _).trans (flt (by decide : ¬ ((0 : Int32) < (0 : Int32)))).2.1) 9 (by decide) ?_
 refine zI X0 hx d9 rfl 10 rfl ?_
 exact own_finI X0 hx hlk (t := .int) hre (by simp) rfl d10 e0 ⟨rfl, N0, rfl⟩ (by decide) (by decide)
def QrmAbs1 (Z : State)  (h0 : Heap) (n0 : Nat) (v : Option Value) (h : Heap) (L : List Loc) : Prop := v = some (.int (1 : Int32)) ∧ Fr n0 L ∧ h = h0
abbrev RrmAbs1 : Room := { frames := 0, cells := 0, slots := 0, locals := 0 }
theorem rmAbs1 (l : Launch) (Z : State) (a0 : Array Value) (hw : ∀ d ∈ tables_1, d.before a0 Z = true) (ws : List Jvm.Cond)  (h0 : Heap) (n0 : Nat) (Z0 : n0 ≤ h0.size)   : Mf l Z Nm13 jdk_29_method_59_code 1 (Option.some Jvm.ClassFile.FieldType.int) ws RrmAbs1 #[(.int (1 : Int32))] h0 (QrmAbs1 Z  h0 n0) := by
 refine own_entry pfor_rmAbs1 #[iv 1] (fun _ => rfl) fun p e s m below meth c s₁ hx hby hml hown hnm hlk hre hZ X0 e0 => ?_
 have N0 := Fr.nil n0
 obtain ⟨d0, d1, d9, d10, -⟩ := D_13 hby
 refine zI X0 hx d0 rfl 1 rfl ?_
 refine zY X0 hx d1 ((if0 _ _).trans (flt (by decide : ¬ ((1 : Int32) < (0 : Int32)))).2.1) 9 (by decide) ?_
 refine zI X0 hx d9 rfl 10 rfl ?_
 exact own_finI X0 hx hlk (t := .int) hre (by simp) rfl d10 e0 ⟨rfl, N0, rfl⟩ (by decide) (by decide)
def QrmHG1 (Z : State) (u : Addr) (ua : Addr) (k : ClassId) (q : Addr) (qa : Addr) (kq : ClassId) (x : Int32) (h0 : Heap) (n0 : Nat) (v : Option Value) (h : Heap) (L : List Loc) : Prop := ∃ r : Addr, ∃ ra : Addr, ∃ kr : ClassId, v = some (.ref r) ∧ Fr n0 L ∧ Keep h0 h [u, ua, q] ∧ (Exa Z h r "java/math/MutableBigInteger") ∧ (Fld Z h r "java/math/MutableBigInteger" "value" "[I" (.ref ra)) ∧ (Fld Z h r "java/math/MutableBigInteger" "intLen" "I" (.int (1 : Int32))) ∧ (Fld Z h r "java/math/MutableBigInteger" "offset" "I" (.int (0 : Int32))) ∧ (Arv Z h ra kr .int (1 : Int32) [(.int (1 : Int32))] (.int (0 : Int32))) ∧ (Exa Z h ra "[I") ∧ (h0.size ≤ r) ∧ (h0.size ≤ ra)
abbrev RrmHG1 : Room := { frames := 4, cells := 4, slots := 8, locals := 66 }
theorem rmHG1 (l : Launch) (Z : State) (a0 : Array Value) (hw : ∀ d ∈ tables_1, d.before a0 Z = true) (ws : List Jvm.Cond) (u : Addr) (ua : Addr) (k : ClassId) (q : Addr) (qa : Addr) (kq : ClassId) (x : Int32) (h0 : Heap) (n0 : Nat) (Z0 : n0 ≤ h0.size)  (p_Exa_u : Exa Z h0 u "java/math/MutableBigInteger") (p_Fld_u_value : Fld Z h0 u "java/math/MutableBigInteger" "value" "[I" (.ref ua)) (p_Fld_u_intLen : Fld Z h0 u "java/math/MutableBigInteger" "intLen" "I" (.int (1 : Int32))) (p_Fld_u_offset : Fld Z h0 u "java/math/MutableBigInteger" "offset" "I" (.int (0 : Int32))) (p_Arv_ua : Arv Z h0 ua k .int (1 : Int32) [(.int x)] (.int (0 : Int32))) (p_Exa_q : Exa Z h0 q "java/math/MutableBigInteger") (p_Fld_q_value : Fld Z h0 q "java/math/MutableBigInteger" "value" "[I" (.ref qa)) (p_Fld_q_intLen : Fld Z h0 q "java/math/MutableBigInteger" "intLen" "I" (.int (1 : Int32))) (p_Fld_q_offset : Fld Z h0 q "java/math/MutableBigInteger" "offset" "I" (.int (0 : Int32))) (p_Arv_qa : Arv Z h0 qa kq .int (1 : Int32) [(.int (1 : Int32))] (.int (0 : Int32))) (hz : ¬ x = (0 : Int32)) (ge1 : n0 ≤ u) (ge2 : n0 ≤ ua) (ge3 : n0 ≤ q) (ne1 : ua ≠ u) (ne2 : qa ≠ ua) (ne3 : q ≠ ua) (ne4 : qa ≠ u) (ne5 : q ≠ u) (ne6 : qa ≠ q) : Mf l Z Nm14 jdk_2101_method_72_code 5 (Option.some (Jvm.ClassFile.FieldType.object "java/math/MutableBigInteger")) ws RrmHG1 #[(.ref u), (.ref q)] h0 (QrmHG1 Z u ua k q qa kq x h0 n0) := by
 refine own_entry (plainFor_of_name pn_java_math_MutableBigInteger) #[rv u, rv q, .unset, .unset, .unset] (fun _ => rfl) fun p e s m below meth c s₁ hx hby hml hown hnm hlk hre hZ X0 e0 => ?_
 have N0 := Fr.nil n0
 obtain ⟨d0, d1, d2, d5, d6, d9, d10, d11, d14, d17, d18, d21, d22, d25, d26, d29, d30, d33, d34, d35, d38, -⟩ := D_14 hby
 refine zR X0 hx d0 rfl rfl 1 rfl ?_
 refine zl 2 _ [] (fun t k => XS.astoreN X0.here hx rfl d1 rfl rfl (l' := #[rv u, rv q, rv u, .unset, .unset]) rfl k) ?_
 obtain ⟨T1, h1, X1, e1, E1, A1, D1, -, st1⟩ := newO X0 hx hZ hown (tw hw 204 rfl) (tw hw 128 rfl) (tw hw 129 rfl) e0 (g := (mkF m 2 #[rv u, rv q, rv u, .unset, .unset] [])) rfl d2 (by decide) (by decide)
 obtain ⟨b1, g1⟩ : ∃ z, z = h0.size := ⟨_, rfl⟩
 rw [← g1] at A1 D1 st1
 have X1 := own_reX X1 (rfl : _ = 1) (rfl : _ = 3)
 refine zt 5 [.ref b1] st1 ?_
 refine zD X1 hx d5 rfl 6 rfl ?_
 refine zCI X1 hx hZ hml rfl rfl hown (tw hw 205 rfl) (tw hw 131 rfl) (tw hw 129 rfl) (tw hw 133 rfl) (rmMi0 l Z a0 hw [] b1 h1 n0 (Nat.le_trans Z0 E1.1) A1 (D1 (Or.inl (tw hw 138 rfl)) pf_1) (D1 (Or.inl (tw hw 140 rfl)) pf_0) (D1 (Or.inl (tw hw 136 rfl)) pf_0) (Nat.le_trans (Nat.le_trans Z0 (Nat.le_refl _)) (Nat.le_of_eq g1.symm))) 1 (by decide) b1 [.ref b1] rfl rfl (lenOf pd_2 rfl) rfl (Nat.le_of_eq rfl) e1 d6 9 rfl fun T2 L2 v2 X2 ⟨Lc2, hQ2, l2⟩ => ?_
 have X2 := own_reX X2 (rfl : _ = 2) (rfl : _ = 4)
 obtain ⟨ra_2, kr_2, rfl, Nq2, K2, f2_0, f2_1, f2_2, f2_3, f2_4, f2_5, f2_6⟩ := hQ2
 have N2 := own_frApp N0 Nq2 l2
 refine zx [.ref b1] rfl ?_
 have K3 : Keep h0 T2.heap [] := (((Keep.refl h0 []).ext E1).trans K2 (allS (Or.inr (Nat.le_trans (Nat.le_refl _) (Nat.le_of_eq g1.symm))) all0))
 refine zl 10 _ [] (fun t k => XS.astoreN X2.here hx rfl d9 rfl rfl (l' := #[rv u, rv q, rv u, rv b1, .unset]) rfl k) ?_
 refine zR X2 hx d10 rfl rfl 11 rfl ?_
 have F4 := (p_Fld_q_intLen.keep K3 nin0)
 refine zP X2 hx hZ hown (tw hw 139 rfl) rfl F4 d11 14 rfl fun T5 X5 e5 => ?_
 refine zN X5 hx d14 ((if0 _ _).trans (feq (by decide : ¬ ((1 : Int32) = (0 : Int32)))).1) 17 rfl ?_
 refine zR X5 hx d17 rfl rfl 18 rfl ?_
 have F6 := (p_Fld_u_intLen.keep K3 nin0)
 refine zP X5 hx hZ hown (tw hw 139 rfl) e5 F6 d18 21 rfl fun T7 X7 e7 => ?_
 refine zR X7 hx d21 rfl rfl 22 rfl ?_
 refine zP X7 hx hZ hown (tw hw 139 rfl) e7 F4 d22 25 rfl fun T8 X8 e8 => ?_
 refine zq 26 [.int 0] (fun t k => XS.isub X8.here hx rfl d25 rfl k) ?_
 refine zCS X8 hx hZ hml hown (tw hw 206 rfl) (tw hw 207 rfl) (tw hw 208 rfl) (tw hw 209 rfl) (rmAbs0 l Z a0 hw [] T2.heap n0 (Nat.le_trans Z0 K3.1)) 0 (by decide) [] rfl (lenOf pd_0 rfl) rfl (Nat.le_of_eq rfl) e8 d26 29 rfl fun T9 L9 v9 X9 ⟨Lc9, hQ9, l9⟩ => ?_
 obtain ⟨rfl, Nq9, eh9⟩ := hQ9
 have N9 := own_frApp N2 Nq9 l9
 refine zx [.int 0] rfl ?_
 refine zK X9 hx d29 2 rfl 30 rfl ?_
 refine zCN X9 hx d30 (tlt (by decide : ((0 : Int32) < (2 : Int32)))).2.1 33 rfl ?_
 refine zR X9 hx d33 rfl rfl 34 rfl ?_
 refine zR X9 hx d34 rfl rfl 35 rfl ?_
 have F10 := (p_Exa_u.keep K3)
 have F11 := (p_Fld_u_value.keep K3 nin0)
 have F12 := (p_Fld_u_offset.keep K3 nin0)
 have F13 := (p_Arv_ua.keep K3 nin0)
 have F14 := (p_Exa_q.keep K3)
 have F15 := (p_Fld_q_value.keep K3 nin0)
 have F16 := (p_Fld_q_offset.keep K3 nin0)
 have F17 := (p_Arv_qa.keep K3 nin0)
 refine zCP X9 hx hZ hml hown (tw hw 210 rfl) (tw hw 212 rfl) (tw hw 129 rfl) (tw hw 214 rfl) (tw hw 213 rfl) (tw hw 211 rfl) (rmBG1 l Z a0 hw [] u ua k q qa kq x T2.heap n0 (Nat.le_trans Z0 K3.1) F10 F11 F6 F12 F13 F14 F15 F4 F16 F17 hz ge1 ge2 ge3 ne1 ne2 ne3 ne4 ne5 ne6) 0 (by decide) u [] rfl rfl (lenOf pd_6 rfl) rfl (Nat.le_of_eq rfl) eh9 F10 d35 38 rfl fun T18 L18 v18 X18 ⟨Lc18, hQ18, l18⟩ => ?_
 have X18 := own_reX X18 (rfl : _ = 4) (rfl : _ = 8)
 obtain ⟨r_18, ra_18, kr_18, rfl, Nq18, K18, f18_0, f18_1, f18_2, f18_3, f18_4, f18_5, f18_6, f18_7⟩ := hQ18
 have N18 := own_frApp N9 Nq18 l18
 refine zx [.ref r_18] rfl ?_
 exact own_finR X18 hx hlk hre rfl rfl d38 rfl ⟨r_18, ra_18, kr_18, rfl, N18, (((Keep.refl h0 [u, ua, q]).trans K3 all0).trans K18 (allS (Or.inl (List.mem_of_getElem? (i := 0) rfl)) (allS (Or.inl (List.mem_of_getElem? (i := 1) rfl)) (allS (Or.inl (List.mem_of_getElem? (i := 2) rfl)) all0)))), f18_0, f18_1, f18_2, f18_3, f18_4, f18_5, (Nat.le_trans K3.1 f18_6), (Nat.le_trans K3.1 f18_7)⟩ (by decide) (by decide)
def QrmHG2 (Z : State) (u : Addr) (ua : Addr) (k : ClassId) (q : Addr) (qa : Addr) (kq : ClassId) (x : Int32) (y : Int32) (h0 : Heap) (n0 : Nat) (v : Option Value) (h : Heap) (L : List Loc) : Prop := ∃ r : Addr, ∃ ra : Addr, ∃ kr : ClassId, v = some (.ref r) ∧ Fr n0 L ∧ Keep h0 h [u, ua, q] ∧ (Exa Z h r "java/math/MutableBigInteger") ∧ (Fld Z h r "java/math/MutableBigInteger" "value" "[I" (.ref ra)) ∧ (Fld Z h r "java/math/MutableBigInteger" "intLen" "I" (.int (1 : Int32))) ∧ (Fld Z h r "java/math/MutableBigInteger" "offset" "I" (.int (0 : Int32))) ∧ (Arv Z h ra kr .int (1 : Int32) [(.int (1 : Int32))] (.int (0 : Int32))) ∧ (Exa Z h ra "[I") ∧ (h0.size ≤ r) ∧ (h0.size ≤ ra)
abbrev RrmHG2 : Room := { frames := 4, cells := 4, slots := 8, locals := 66 }
theorem rmHG2 (l : Launch) (Z : State) (a0 : Array Value) (hw : ∀ d ∈ tables_1, d.before a0 Z = true) (ws : List Jvm.Cond) (u : Addr) (ua : Addr) (k : ClassId) (q : Addr) (qa : Addr) (kq : ClassId) (x : Int32) (y : Int32) (h0 : Heap) (n0 : Nat) (Z0 : n0 ≤ h0.size)  (p_Exa_u : Exa Z h0 u "java/math/MutableBigInteger") (p_Fld_u_value : Fld Z h0 u "java/math/MutableBigInteger" "value" "[I" (.ref ua)) (p_Fld_u_intLen : Fld Z h0 u "java/math/MutableBigInteger" "intLen" "I" (.int (2 : Int32))) (p_Fld_u_offset : Fld Z h0 u "java/math/MutableBigInteger" "offset" "I" (.int (0 : Int32))) (p_Arv_ua : Arv Z h0 ua k .int (2 : Int32) [(.int x), (.int y)] (.int (0 : Int32))) (p_Exa_q : Exa Z h0 q "java/math/MutableBigInteger") (p_Fld_q_value : Fld Z h0 q "java/math/MutableBigInteger" "value" "[I" (.ref qa)) (p_Fld_q_intLen : Fld Z h0 q "java/math/MutableBigInteger" "intLen" "I" (.int (1 : Int32))) (p_Fld_q_offset : Fld Z h0 q "java/math/MutableBigInteger" "offset" "I" (.int (0 : Int32))) (p_Arv_qa : Arv Z h0 qa kq .int (1 : Int32) [(.int (1 : Int32))] (.int (0 : Int32))) (hz : ¬ x = (0 : Int32)) (ge1 : n0 ≤ u) (ge2 : n0 ≤ ua) (ge3 : n0 ≤ q) (ne1 : ua ≠ u) (ne2 : qa ≠ ua) (ne3 : q ≠ ua) (ne4 : qa ≠ u) (ne5 : q ≠ u) (ne6 : qa ≠ q) : Mf l Z Nm14 jdk_2101_method_72_code 5 (Option.some (Jvm.ClassFile.FieldType.object "java/math/MutableBigInteger")) ws RrmHG2 #[(.ref u), (.ref q)] h0 (QrmHG2 Z u ua k q qa kq x y h0 n0) := by
 refine own_entry (plainFor_of_name pn_java_math_MutableBigInteger) #[rv u, rv q, .unset, .unset, .unset] (fun _ => rfl) fun p e s m below meth c s₁ hx hby hml hown hnm hlk hre hZ X0 e0 => ?_
 have N0 := Fr.nil n0
 obtain ⟨d0, d1, d2, d5, d6, d9, d10, d11, d14, d17, d18, d21, d22, d25, d26, d29, d30, d33, d34, d35, d38, -⟩ := D_14 hby
 refine zR X0 hx d0 rfl rfl 1 rfl ?_
 refine zl 2 _ [] (fun t k => XS.astoreN X0.here hx rfl d1 rfl rfl (l' := #[rv u, rv q, rv u, .unset, .unset]) rfl k) ?_
 obtain ⟨T1, h1, X1, e1, E1, A1, D1, -, st1⟩ := newO X0 hx hZ hown (tw hw 204 rfl) (tw hw 128 rfl) (tw hw 129 rfl) e0 (g := (mkF m 2 #[rv u, rv q, rv u, .unset, .unset] [])) rfl d2 (by decide) (by decide)
 obtain ⟨b1, g1⟩ : ∃ z, z = h0.size := ⟨_, rfl⟩
 rw [← g1] at A1 D1 st1
 have X1 := own_reX X1 (rfl : _ = 1) (rfl : _ = 3)
 refine zt 5 [.ref b1] st1 ?_
 refine zD X1 hx d5 rfl 6 rfl ?_
 refine zCI X1 hx hZ hml rfl rfl hown (tw hw 205 rfl) (tw hw 131 rfl) (tw hw 129 rfl) (tw hw 133 rfl) (rmMi0 l Z a0 hw [] b1 h1 n0 (Nat.le_trans Z0 E1.1) A1 (D1 (Or.inl (tw hw 138 rfl)) pf_1) (D1 (Or.inl (tw hw 140 rfl)) pf_0) (D1 (Or.inl (tw hw 136 rfl)) pf_0) (Nat.le_trans (Nat.le_trans Z0 (Nat.le_refl _)) (Nat.le_of_eq g1.symm))) 1 (by decide) b1 [.ref b1] rfl rfl (lenOf pd_2 rfl) rfl (Nat.le_of_eq rfl) e1 d6 9 rfl fun T2 L2 v2 X2 ⟨Lc2, hQ2, l2⟩ => ?_
 have X2 := own_reX X2 (rfl : _ = 2) (rfl : _ = 4)
 obtain ⟨ra_2, kr_2, rfl, Nq2, K2, f2_0, f2_1, f2_2, f2_3, f2_4, f2_5, f2_6⟩ := hQ2
 have N2 := own_frApp N0 Nq2 l2
 refine zx [.ref b1] rfl ?_
 have K3 : Keep h0 T2.heap [] := (((Keep.refl h0 []).ext E1).trans K2 (allS (Or.inr (Nat.le_trans (Nat.le_refl _) (Nat.le_of_eq g1.symm))) all0))
 refine zl 10 _ [] (fun t k => XS.astoreN X2.here hx rfl d9 rfl rfl (l' := #[rv u, rv q, rv u, rv b1, .unset]) rfl k) ?_
 refine zR X2 hx d10 rfl rfl 11 rfl ?_
 have F4 := (p_Fld_q_intLen.keep K3 nin0)
 refine zP X2 hx hZ hown (tw hw 139 rfl) rfl F4 d11 14 rfl fun T5 X5 e5 => ?_
 refine zN X5 hx d14 ((if0 _ _).trans (feq (by decide : ¬ ((1 : Int32) = (0 : Int32)))).1) 17 rfl ?_
 refine zR X5 hx d17 rfl rfl 18 rfl ?_
 have F6 := (p_Fld_u_intLen.keep K3 nin0)
 refine zP X5 hx hZ hown (tw hw 139 rfl) e5 F6 d18 21 rfl fun T7 X7 e7 => ?_
 refine zR X7 hx d21 rfl rfl 22 rfl ?_
 refine zP X7 hx hZ hown (tw hw 139 rfl) e7 F4 d22 25 rfl fun T8 X8 e8 => ?_
 refine zq 26 [.int 1] (fun t k => XS.isub X8.here hx rfl d25 rfl k) ?_
 refine zCS X8 hx hZ hml hown (tw hw 206 rfl) (tw hw 207 rfl) (tw hw 208 rfl) (tw hw 209 rfl) (rmAbs1 l Z a0 hw [] T2.heap n0 (Nat.le_trans Z0 K3.1)) 0 (by decide) [] rfl (lenOf pd_0 rfl) rfl (Nat.le_of_eq rfl) e8 d26 29 rfl fun T9 L9 v9 X9 ⟨Lc9, hQ9, l9⟩ => ?_
 obtain ⟨rfl, Nq9, eh9⟩ := hQ9
 have N9 := own_frApp N2 Nq9 l9
 refine zx [.int 1] rfl ?_
 refine zK X9 hx d29 2 rfl 30 rfl ?_
 refine zCN X9 hx d30 (tlt (by decide : ((1 : Int32) < (2 : Int32)))).2.1 33 rfl ?_
 refine zR X9 hx d33 rfl rfl 34 rfl ?_
 refine zR X9 hx d34 rfl rfl 35 rfl ?_
 have F10 := (p_Exa_u.keep K3)
 have F11 := (p_Fld_u_value.keep K3 nin0)
 have F12 := (p_Fld_u_offset.keep K3 nin0)
 have F13 := (p_Arv_ua.keep K3 nin0)
 have F14 := (p_Exa_q.keep K3)
 have F15 := (p_Fld_q_value.keep K3 nin0)
 have F16 := (p_Fld_q_offset.keep K3 nin0)
 have F17 := (p_Arv_qa.keep K3 nin0)
 refine zCP X9 hx hZ hml hown (tw hw 210 rfl) (tw hw 212 rfl) (tw hw 129 rfl) (tw hw 214 rfl) (tw hw 213 rfl) (tw hw 211 rfl) (rmBG2 l Z a0 hw [] u ua k q qa kq x y T2.heap n0 (Nat.le_trans Z0 K3.1) F10 F11 F6 F12 F13 F14 F15 F4 F16 F17 hz ge1 ge2 ge3 ne1 ne2 ne3 ne4 ne5 ne6) 0 (by decide) u [] rfl rfl (lenOf pd_6 rfl) rfl (Nat.le_of_eq rfl) eh9 F10 d35 38 rfl fun T18 L18 v18 X18 ⟨Lc18, hQ18, l18⟩ => ?_
 have X18 := own_reX X18 (rfl : _ = 4) (rfl : _ = 8)
 obtain ⟨r_18, ra_18, kr_18, rfl, Nq18, K18, f18_0, f18_1, f18_2, f18_3, f18_4, f18_5, f18_6, f18_7⟩ := hQ18
 have N18 := own_frApp N9 Nq18 l18
 refine zx [.ref r_18] rfl ?_
 exact own_finR X18 hx hlk hre rfl rfl d38 rfl ⟨r_18, ra_18, kr_18, rfl, N18, (((Keep.refl h0 [u, ua, q]).trans K3 all0).trans K18 (allS (Or.inl (List.mem_of_getElem? (i := 0) rfl)) (allS (Or.inl (List.mem_of_getElem? (i := 1) rfl)) (allS (Or.inl (List.mem_of_getElem? (i := 2) rfl)) all0)))), f18_0, f18_1, f18_2, f18_3, f18_4, f18_5, (Nat.le_trans K3.1 f18_6), (Nat.le_trans K3.1 f18_7)⟩ (by decide) (by decide)
def QrmCo1 (Z : State) (ma : Addr) (k : ClassId) (x : Int32) (h0 : Heap) (n0 : Nat) (v : Option Value) (h : Heap) (L : List Loc) : Prop := ∃ ca : Addr, v = some (.ref ca) ∧ Fr n0 L ∧ Keep h0 h [] ∧ (h0.size ≤ ca) ∧ (Arv Z h ca k .int (1 : Int32) [(.int x)] (.int (0 : Int32))) ∧ (Exa Z h ca "[I")
abbrev RrmCo1 : Room := { frames := 1, cells := 1, slots := 1, locals := 14 }
theorem rmCo1 (l : Launch) (Z : State) (a0 : Array Value) (hw : ∀ d ∈ tables_1, d.before a0 Z = true) (ws : List Jvm.Cond) (ma : Addr) (k : ClassId) (x : Int32) (h0 : Heap) (n0 : Nat) (Z0 : n0 ≤ h0.size)  (p_Arv_ma : Arv Z h0 ma k .int (1 : Int32) [(.int x)] (.int (0 : Int32))) (p_Exa_ma : Exa Z h0 ma "[I") : Mf l Z Nm15 jdk_65_method_123_code 3 (Option.some (Jvm.ClassFile.FieldType.array Jvm.ClassFile.FieldType.int)) ws RrmCo1 #[(.ref ma), (.int (1 : Int32))] h0 (QrmCo1 Z ma k x h0 n0) := by
 refine own_entry (plainFor_of_name pn_java_util_Arrays) #[rv ma, iv 1, .unset] (fun _ => rfl) fun p e s m below meth c s₁ hx hby hml hown hnm hlk hre hZ X0 e0 => ?_
 have N0 := Fr.nil n0
 obtain ⟨d0, d1, d2, d3, d6, d7, d10, d13, -⟩ := D_15 hby
 refine zI X0 hx d0 rfl 1 rfl ?_
 refine zR X0 hx d1 rfl rfl 2 rfl ?_
 refine zLn X0 hx hZ e0 p_Arv_ma d2 3 rfl ?_
 refine zCN X0 hx d3 (teq (by decide : ((1 : Int32) = (1 : Int32)))).2 6 rfl ?_
 refine zR X0 hx d6 rfl rfl 7 rfl ?_
 obtain ⟨T2, h2, X2, e2, E2, V2, Ex2, st2⟩ := cloneH X0 hx hZ hown (tw hw 190 rfl) (tw hw 191 rfl) (tw hw 195 rfl) (tw hw 193 rfl) (tw hw 194 rfl) (tw hw 196 rfl) e0 (hs := []) (vs := [(.int x)]) p_Arv_ma p_Exa_ma (g := (mkF m 7 #[rv ma, iv 1, .unset] [.ref ma])) rfl (by rw [hml]; rfl) rfl d7 (by decide) (W := 0) (cap := 1) (by show 2 * 0 + _ ≤ _; exact Nat.le_of_eq rfl) (by decide) (by decide) (by decide) (by decide)
 obtain ⟨b2, g2⟩ : ∃ z, z = h0.size := ⟨_, rfl⟩
 rw [← g2] at V2 Ex2 st2
 have X2 := own_reX X2 (rfl : _ = 1) (rfl : _ = 1)
 have V2 : Arv Z h2 b2 k .int (1 : Int32) [(.int x)] (.int (0 : Int32)) := V2
 refine zt 10 [.ref b2] st2 ?_
 obtain ⟨T3, X3, e3, st3⟩ := castY X2 hx hZ hown (tw hw 197 rfl) e2 (Ins.self Ex2) (g := (mkF m 10 #[rv ma, iv 1, .unset] [.ref b2])) rfl rfl d10
 refine zt 13 [.ref b2] st3 ?_
 exact own_finR X3 hx hlk hre rfl rfl d13 e3 ⟨b2, rfl, N0, ((Keep.refl h0 []).ext E2), (Nat.le_trans (Nat.le_refl _) (Nat.le_of_eq g2.symm)), V2, Ex2⟩ (by decide) (by decide)
def QrmMiB1 (Z : State) (u : Addr) (bi : Addr) (ma : Addr) (k : ClassId) (x : Int32) (h0 : Heap) (n0 : Nat) (v : Option Value) (h : Heap) (L : List Loc) : Prop := ∃ ca : Addr, v = none ∧ Fr n0 L ∧ Keep h0 h [u] ∧ (Exa Z h u "java/math/MutableBigInteger") ∧ (Fld Z h u "java/math/MutableBigInteger" "value" "[I" (.ref ca)) ∧ (Fld Z h u "java/math/MutableBigInteger" "intLen" "I" (.int (1 : Int32))) ∧ (Fld Z h u "java/math/MutableBigInteger" "offset" "I" (.int (0 : Int32))) ∧ (Arv Z h ca k .int (1 : Int32) [(.int x)] (.int (0 : Int32))) ∧ (Exa Z h ca "[I") ∧ (h0.size ≤ ca)
abbrev RrmMiB1 : Room := { frames := 2, cells := 1, slots := 1, locals := 29 }
theorem rmMiB1 (l : Launch) (Z : State) (a0 : Array Value) (hw : ∀ d ∈ tables_1, d.before a0 Z = true) (ws : List Jvm.Cond) (u : Addr) (bi : Addr) (ma : Addr) (k : ClassId) (x : Int32) (h0 : Heap) (n0 : Nat) (Z0 : n0 ≤ h0.size)  (p_Exa_u : Exa Z h0 u "java/math/MutableBigInteger") (p_Fld_u_value : Fld Z h0 u "java/math/MutableBigInteger" "value" "[I" .null) (p_Fld_u_intLen : Fld Z h0 u "java/math/MutableBigInteger" "intLen" "I" (.int (0 : Int32))) (p_Fld_u_offset : Fld Z h0 u "java/math/MutableBigInteger" "offset" "I" (.int (0 : Int32))) (ge1 : n0 ≤ u) (p_Fld_bi_mag : Fld Z h0 bi "java/math/BigInteger" "mag" "[I" (.ref ma)) (p_Arv_ma : Arv Z h0 ma k .int (1 : Int32) [(.int x)] (.int (0 : Int32))) (p_Exa_ma : Exa Z h0 ma "[I") (ne1 : bi ≠ u) (ne2 : ma ≠ u) : Mf l Z Nm16 jdk_2101_method_4_code 2 (Option.none : Option Jvm.ClassFile.FieldType) ws RrmMiB1 #[(.ref u), (.ref bi)] h0 (QrmMiB1 Z u bi ma k x h0 n0) := by
 refine own_entry (plainFor_of_name pn_java_math_MutableBigInteger) #[rv u, rv bi] (fun _ => rfl) fun p e s m below meth c s₁ hx hby hml hown hnm hlk hre hZ X0 e0 => ?_
 have N0 := Fr.nil n0
 obtain ⟨d0, d1, d4, d5, d6, d9, d10, d11, d14, d15, d18, d19, d20, d23, d24, d27, d30, d33, -⟩ := D_16 hby
 refine zR X0 hx d0 rfl rfl 1 rfl ?_
 obtain ⟨T1, X1, e1, st1⟩ := initO X0 hx hZ hown (tw hw 134 rfl) (tw hw 21 rfl) (tw hw 22 rfl) e0 (g := (mkF m 1 #[rv u, rv bi] [.ref u])) rfl (by rw [hml]; rfl) rfl d1 (by decide) (W := 0) (by show 2 * 0 + _ ≤ _; exact Nat.le_of_eq rfl) (by decide)
 refine zt 4 [] st1 ?_
 refine zR X1 hx d4 rfl rfl 5 rfl ?_
 refine zK X1 hx d5 0 rfl 6 rfl ?_
 obtain ⟨T2, h2, X2, e2, W2, st2⟩ := putF X1 hx hZ hown (host := "") (Or.inl (tw hw 135 rfl)) Via.refl e1 p_Fld_u_offset p_Exa_u (Or.inl (tw hw 136 rfl)) (tw hw 128 rfl) pf_0 rfl rfl (g := (mkF m 6 #[rv u, rv bi] [.int 0, .ref u])) rfl rfl d6
 have N2 := Fr.snoc X2 N0 ge1
 have Fw2 : Fld Z h2 u "java/math/MutableBigInteger" "offset" "I" (.int (0 : Int32)) := p_Fld_u_offset.same W2
 refine zt 9 [] st2 ?_
 refine zR X2 hx d9 rfl rfl 10 rfl ?_
 refine zR X2 hx d10 rfl rfl 11 rfl ?_
 have F3 := (p_Fld_bi_mag.other W2 (Or.inl ne1))
 refine zP X2 hx hZ hown (tw hw 185 rfl) e2 F3 d11 14 rfl fun T4 X4 e4 => ?_
 have F5 := (p_Arv_ma.other W2 ne2)
 refine zLn X4 hx hZ e4 F5 d14 15 rfl ?_
 have F7 := (p_Exa_u.wr W2)
 have F8 := (p_Fld_u_intLen.other W2 (Or.inr (sn_java_math_MutableBigInteger_intLen__offset hw)))
 obtain ⟨T9, h9, X9, e9, W9, st9⟩ := putF X4 hx hZ hown (host := "") (Or.inl (tw hw 139 rfl)) Via.refl e4 F8 F7 (Or.inl (tw hw 140 rfl)) (tw hw 128 rfl) pf_0 rfl rfl (g := (mkF m 15 #[rv u, rv bi] [.int 1, .ref u])) rfl rfl d15
 have N9 := Fr.snoc X9 N2 ge1
 have Fw9 : Fld Z h9 u "java/math/MutableBigInteger" "intLen" "I" (.int (1 : Int32)) := F8.same W9
 refine zt 18 [] st9 ?_
 refine zR X9 hx d18 rfl rfl 19 rfl ?_
 refine zR X9 hx d19 rfl rfl 20 rfl ?_
 have F10 := (F3.other W9 (Or.inl ne1))
 refine zP X9 hx hZ hown (tw hw 185 rfl) e9 F10 d20 23 rfl fun T11 X11 e11 => ?_
 refine zR X11 hx d23 rfl rfl 24 rfl ?_
 refine zP X11 hx hZ hown (tw hw 139 rfl) e11 Fw9 d24 27 rfl fun T12 X12 e12 => ?_
 have F13 := (F5.other W9 ne2)
 have F14 := ((p_Exa_ma.wr W2).wr W9)
 refine zCS X12 hx hZ hml hown (tw hw 186 rfl) (tw hw 187 rfl) (tw hw 188 rfl) (tw hw 189 rfl) (rmCo1 l Z a0 hw [] ma k x h9 n0 (Nat.le_trans Z0 (Nat.le_trans (Nat.le_of_eq W2.size.symm) (Nat.le_of_eq W9.size.symm))) F13 F14) 1 (by decide) [.ref u] rfl (lenOf pd_7 rfl) rfl (Nat.le_of_eq rfl) e12 d27 30 rfl fun T15 L15 v15 X15 ⟨Lc15, hQ15, l15⟩ => ?_
 have X15 := own_reX X15 (rfl : _ = 1) (rfl : _ = 1)
 obtain ⟨ca_15, rfl, Nq15, K15, f15_0, f15_1, f15_2⟩ := hQ15
 have N15 := own_frApp N9 Nq15 l15
 refine zx [.ref ca_15, .ref u] rfl ?_
 have F16 := ((F7.wr W9).keep K15)
 have F17 := (((p_Fld_u_value.other W2 (Or.inr (sn_java_math_MutableBigInteger_value__offset hw))).other W9 (Or.inr (sn_java_math_MutableBigInteger_value__intLen hw))).keep K15 nin0)
 obtain ⟨T18, h18, X18, e18, W18, st18⟩ := putF X15 hx hZ hown (host := "") (Or.inl (tw hw 137 rfl)) Via.refl rfl F17 F16 (Or.inl (tw hw 138 rfl)) (tw hw 128 rfl) pf_1 rfl rfl (g := (mkF m 30 #[rv u, rv bi] [.ref ca_15, .ref u])) rfl rfl d30
 have N18 := Fr.snoc X18 N15 ge1
 have Fw18 : Fld Z h18 u "java/math/MutableBigInteger" "value" "[I" (.ref ca_15) := F17.same W18
 refine zt 33 [] st18 ?_
 have F19 := (F16.wr W18)
 have F20 := ((Fw9.keep K15 nin0).other W18 (Or.inr (sn_java_math_MutableBigInteger_intLen__value hw)))
 have F21 := (((Fw2.other W9 (Or.inr (sn_java_math_MutableBigInteger_offset__intLen hw))).keep K15 nin0).other W18 (Or.inr (sn_java_math_MutableBigInteger_offset__value hw)))
 have F22 := (f15_1.other W18 (Ne.symm (Nat.ne_of_lt (Nat.lt_of_lt_of_le (Nat.lt_of_lt_of_le p_Exa_u.lt (Nat.le_trans (Nat.le_of_eq W2.size.symm) (Nat.le_of_eq W9.size.symm))) f15_0))))
 have F23 := (f15_2.wr W18)
 exact own_finV X18 hx hlk hre d33 e18 (K := _) ⟨ca_15, rfl, N18, (((((Keep.refl h0 [u]).wr W2 (Or.inl (List.mem_of_getElem? (i := 0) rfl))).wr W9 (Or.inl (List.mem_of_getElem? (i := 0) rfl))).trans K15 all0).wr W18 (Or.inl (List.mem_of_getElem? (i := 0) rfl))), F19, Fw18, F20, F21, F22, F23, (Nat.le_trans (Nat.le_trans (Nat.le_of_eq W2.size.symm) (Nat.le_of_eq W9.size.symm)) f15_0)⟩ (by decide) (by decide)
def QrmCo2 (Z : State) (ma : Addr) (k : ClassId) (x : Int32) (y : Int32) (h0 : Heap) (n0 : Nat) (v : Option Value) (h : Heap) (L : List Loc) : Prop := ∃ ca : Addr, v = some (.ref ca) ∧ Fr n0 L ∧ Keep h0 h [] ∧ (h0.size ≤ ca) ∧ (Arv Z h ca k .int (2 : Int32) [(.int x), (.int y)] (.int (0 : Int32))) ∧ (Exa Z h ca "[I")
abbrev RrmCo2 : Room := { frames := 1, cells := 1, slots := 2, locals := 14 }
theorem rmCo2 (l : Launch) (Z : State) (a0 : Array Value) (hw : ∀ d ∈ tables_1, d.before a0 Z = true) (ws : List Jvm.Cond) (ma : Addr) (k : ClassId) (x : Int32) (y : Int32) (h0 : Heap) (n0 : Nat) (Z0 : n0 ≤ h0.size)  (p_Arv_ma : Arv Z h0 ma k .int (2 : Int32) [(.int x), (.int y)] (.int (0 : Int32))) (p_Exa_ma : Exa Z h0 ma "[I") : Mf l Z Nm15 jdk_65_method_123_code 3 (Option.some (Jvm.ClassFile.FieldType.array Jvm.ClassFile.FieldType.int)) ws RrmCo2 #[(.ref ma), (.int (2 : Int32))] h0 (QrmCo2 Z ma k x y h0 n0) := by
 refine own_entry (plainFor_of_name pn_java_util_Arrays) #[rv ma, iv 2, .unset] (fun _ => rfl) fun p e s m below meth c s₁ hx hby hml hown hnm hlk hre hZ X0 e0 => ?_
 have N0 := Fr.nil n0
 obtain ⟨d0, d1, d2, d3, d6, d7, d10, d13, -⟩ := D_15 hby
 refine zI X0 hx d0 rfl 1 rfl ?_
 refine zR X0 hx d1 rfl rfl 2 rfl ?_
 refine zLn X0 hx hZ e0 p_Arv_ma d2 3 rfl ?_
 refine zCN X0 hx d3 (teq (by decide : ((2 : Int32) = (2 : Int32)))).2 6 rfl ?_
 refine zR X0 hx d6 rfl rfl 7 rfl ?_
 obtain ⟨T2, h2, X2, e2, E2, V2, Ex2, st2⟩ := cloneH X0 hx hZ hown (tw hw 190 rfl) (tw hw 191 rfl) (tw hw 195 rfl) (tw hw 193 rfl) (tw hw 194 rfl) (tw hw 196 rfl) e0 (hs := []) (vs := [(.int x), (.int y)]) p_Arv_ma p_Exa_ma (g := (mkF m 7 #[rv ma, iv 2, .unset] [.ref ma])) rfl (by rw [hml]; rfl) rfl d7 (by decide) (W := 0) (cap := 2) (by show 2 * 0 + _ ≤ _; exact Nat.le_of_eq rfl) (by decide) (by decide) (by decide) (by decide)
 obtain ⟨b2, g2⟩ : ∃ z, z = h0.size := ⟨_, rfl⟩
 rw [← g2] at V2 Ex2 st2
 have X2 := own_reX X2 (rfl : _ = 1) (rfl : _ = 2)
 have V2 : Arv Z h2 b2 k .int (2 : Int32) [(.int x), (.int y)] (.int (0 : Int32)) := V2
 refine zt 10 [.ref b2] st2 ?_
 obtain ⟨T3, X3, e3, st3⟩ := castY X2 hx hZ hown (tw hw 197 rfl) e2 (Ins.self Ex2) (g := (mkF m 10 #[rv ma, iv 2, .unset] [.ref b2])) rfl rfl d10
 refine zt 13 [.ref b2] st3 ?_
 exact own_finR X3 hx hlk hre rfl rfl d13 e3 ⟨b2, rfl, N0, ((Keep.refl h0 []).ext E2), (Nat.le_trans (Nat.le_refl _) (Nat.le_of_eq g2.symm)), V2, Ex2⟩ (by decide) (by decide)
def QrmMiB2 (Z : State) (u : Addr) (bi : Addr) (ma : Addr) (k : ClassId) (x : Int32) (y : Int32) (h0 : Heap) (n0 : Nat) (v : Option Value) (h : Heap) (L : List Loc) : Prop := ∃ ca : Addr, v = none ∧ Fr n0 L ∧ Keep h0 h [u] ∧ (Exa Z h u "java/math/MutableBigInteger") ∧ (Fld Z h u "java/math/MutableBigInteger" "value" "[I" (.ref ca)) ∧ (Fld Z h u "java/math/MutableBigInteger" "intLen" "I" (.int (2 : Int32))) ∧ (Fld Z h u "java/math/MutableBigInteger" "offset" "I" (.int (0 : Int32))) ∧ (Arv Z h ca k .int (2 : Int32) [(.int x), (.int y)] (.int (0 : Int32))) ∧ (Exa Z h ca "[I") ∧ (h0.size ≤ ca)
abbrev RrmMiB2 : Room := { frames := 2, cells := 1, slots := 2, locals := 29 }
theorem rmMiB2 (l : Launch) (Z : State) (a0 : Array Value) (hw : ∀ d ∈ tables_1, d.before a0 Z = true) (ws : List Jvm.Cond) (u : Addr) (bi : Addr) (ma : Addr) (k : ClassId) (x : Int32) (y : Int32) (h0 : Heap) (n0 : Nat) (Z0 : n0 ≤ h0.size)  (p_Exa_u : Exa Z h0 u "java/math/MutableBigInteger") (p_Fld_u_value : Fld Z h0 u "java/math/MutableBigInteger" "value" "[I" .null) (p_Fld_u_intLen : Fld Z h0 u "java/math/MutableBigInteger" "intLen" "I" (.int (0 : Int32))) (p_Fld_u_offset : Fld Z h0 u "java/math/MutableBigInteger" "offset" "I" (.int (0 : Int32))) (ge1 : n0 ≤ u) (p_Fld_bi_mag : Fld Z h0 bi "java/math/BigInteger" "mag" "[I" (.ref ma)) (p_Arv_ma : Arv Z h0 ma k .int (2 : Int32) [(.int x), (.int y)] (.int (0 : Int32))) (p_Exa_ma : Exa Z h0 ma "[I") (ne1 : bi ≠ u) (ne2 : ma ≠ u) : Mf l Z Nm16 jdk_2101_method_4_code 2 (Option.none : Option Jvm.ClassFile.FieldType) ws RrmMiB2 #[(.ref u), (.ref bi)] h0 (QrmMiB2 Z u bi ma k x y h0 n0) := by
 refine own_entry (plainFor_of_name pn_java_math_MutableBigInteger) #[rv u, rv bi] (fun _ => rfl) fun p e s m below meth c s₁ hx hby hml hown hnm hlk hre hZ X0 e0 => ?_
 have N0 := Fr.nil n0
 obtain ⟨d0, d1, d4, d5, d6, d9, d10, d11, d14, d15, d18, d19, d20, d23, d24, d27, d30, d33, -⟩ := D_16 hby
 refine zR X0 hx d0 rfl rfl 1 rfl ?_
 obtain ⟨T1, X1, e1, st1⟩ := initO X0 hx hZ hown (tw hw 134 rfl) (tw hw 21 rfl) (tw hw 22 rfl) e0 (g := (mkF m 1 #[rv u, rv bi] [.ref u])) rfl (by rw [hml]; rfl) rfl d1 (by decide) (W := 0) (by show 2 * 0 + _ ≤ _; exact Nat.le_of_eq rfl) (by decide)
 refine zt 4 [] st1 ?_
 refine zR X1 hx d4 rfl rfl 5 rfl ?_
 refine zK X1 hx d5 0 rfl 6 rfl ?_
 obtain ⟨T2, h2, X2, e2, W2, st2⟩ := putF X1 hx hZ hown (host := "") (Or.inl (tw hw 135 rfl)) Via.refl e1 p_Fld_u_offset p_Exa_u (Or.inl (tw hw 136 rfl)) (tw hw 128 rfl) pf_0 rfl rfl (g := (mkF m 6 #[rv u, rv bi] [.int 0, .ref u])) rfl rfl d6
 have N2 := Fr.snoc X2 N0 ge1
 have Fw2 : Fld Z h2 u "java/math/MutableBigInteger" "offset" "I" (.int (0 : Int32)) := p_Fld_u_offset.same W2
 refine zt 9 [] st2 ?_
 refine zR X2 hx d9 rfl rfl 10 rfl ?_
 refine zR X2 hx d10 rfl rfl 11 rfl ?_
 have F3 := (p_Fld_bi_mag.other W2 (Or.inl ne1))
 refine zP X2 hx hZ hown (tw hw 185 rfl) e2 F3 d11 14 rfl fun T4 X4 e4 => ?_
 have F5 := (p_Arv_ma.other W2 ne2)
 refine zLn X4 hx hZ e4 F5 d14 15 rfl ?_
 have F7 := (p_Exa_u.wr W2)
 have F8 := (p_Fld_u_intLen.other W2 (Or.inr (sn_java_math_MutableBigInteger_intLen__offset hw)))
 obtain ⟨T9, h9, X9, e9, W9, st9⟩ := putF X4 hx hZ hown (host := "") (Or.inl (tw hw 139 rfl)) Via.refl e4 F8 F7 (Or.inl (tw hw 140 rfl)) (tw hw 128 rfl) pf_0 rfl rfl (g := (mkF m 15 #[rv u, rv bi] [.int 2, .ref u])) rfl rfl d15
 have N9 := Fr.snoc X9 N2 ge1
 have Fw9 : Fld Z h9 u "java/math/MutableBigInteger" "intLen" "I" (.int (2 : Int32)) := F8.same W9
 refine zt 18 [] st9 ?_
 refine zR X9 hx d18 rfl rfl 19 rfl ?_
 refine zR X9 hx d19 rfl rfl 20 rfl ?_
 have F10 := (F3.other W9 (Or.inl ne1))
 refine zP X9 hx hZ hown (tw hw 185 rfl) e9 F10 d20 23 rfl fun T11 X11 e11 => ?_
 refine zR X11 hx d23 rfl rfl 24 rfl ?_
 refine zP X11 hx hZ hown (tw hw 139 rfl) e11 Fw9 d24 27 rfl fun T12 X12 e12 => ?_
 have F13 := (F5.other W9 ne2)
 have F14 := ((p_Exa_ma.wr W2).wr W9)
 refine zCS X12 hx hZ hml hown (tw hw 186 rfl) (tw hw 187 rfl) (tw hw 188 rfl) (tw hw 189 rfl) (rmCo2 l Z a0 hw [] ma k x y h9 n0 (Nat.le_trans Z0 (Nat.le_trans (Nat.le_of_eq W2.size.symm) (Nat.le_of_eq W9.size.symm))) F13 F14) 1 (by decide) [.ref u] rfl (lenOf pd_7 rfl) rfl (Nat.le_of_eq rfl) e12 d27 30 rfl fun T15 L15 v15 X15 ⟨Lc15, hQ15, l15⟩ => ?_
 have X15 := own_reX X15 (rfl : _ = 1) (rfl : _ = 2)
 obtain ⟨ca_15, rfl, Nq15, K15, f15_0, f15_1, f15_2⟩ := hQ15
 have N15 := own_frApp N9 Nq15 l15
 refine zx [.ref ca_15, .ref u] rfl ?_
 have F16 := ((F7.wr W9).keep K15)
 have F17 := (((p_Fld_u_value.other W2 (Or.inr (sn_java_math_MutableBigInteger_value__offset hw))).other W9 (Or.inr (sn_java_math_MutableBigInteger_value__intLen hw))).keep K15 nin0)
 obtain ⟨T18, h18, X18, e18, W18, st18⟩ := putF X15 hx hZ hown (host := "") (Or.inl (tw hw 137 rfl)) Via.refl rfl F17 F16 (Or.inl (tw hw 138 rfl)) (tw hw 128 rfl) pf_1 rfl rfl (g := (mkF m 30 #[rv u, rv bi] [.ref ca_15, .ref u])) rfl rfl d30
 have N18 := Fr.snoc X18 N15 ge1
 have Fw18 : Fld Z h18 u "java/math/MutableBigInteger" "value" "[I" (.ref ca_15) := F17.same W18
 refine zt 33 [] st18 ?_
 have F19 := (F16.wr W18)
 have F20 := ((Fw9.keep K15 nin0).other W18 (Or.inr (sn_java_math_MutableBigInteger_intLen__value hw)))
 have F21 := (((Fw2.other W9 (Or.inr (sn_java_math_MutableBigInteger_offset__intLen hw))).keep K15 nin0).other W18 (Or.inr (sn_java_math_MutableBigInteger_offset__value hw)))
 have F22 := (f15_1.other W18 (Ne.symm (Nat.ne_of_lt (Nat.lt_of_lt_of_le (Nat.lt_of_lt_of_le p_Exa_u.lt (Nat.le_trans (Nat.le_of_eq W2.size.symm) (Nat.le_of_eq W9.size.symm))) f15_0))))
 have F23 := (f15_2.wr W18)
 exact own_finV X18 hx hlk hre d33 e18 (K := _) ⟨ca_15, rfl, N18, (((((Keep.refl h0 [u]).wr W2 (Or.inl (List.mem_of_getElem? (i := 0) rfl))).wr W9 (Or.inl (List.mem_of_getElem? (i := 0) rfl))).trans K15 all0).wr W18 (Or.inl (List.mem_of_getElem? (i := 0) rfl))), F19, Fw18, F20, F21, F22, F23, (Nat.le_trans (Nat.le_trans (Nat.le_of_eq W2.size.symm) (Nat.le_of_eq W9.size.symm)) f15_0)⟩ (by decide) (by decide)
def QrmNum (Z : State) (a1 : Addr) (h0 : Heap) (n0 : Nat) (v : Option Value) (h : Heap) (L : List Loc) : Prop := v = none ∧ Fr n0 L ∧ h = h0
abbrev RrmNum : Room := { frames := 1, cells := 0, slots := 0, locals := 12 }
theorem rmNum (l : Launch) (Z : State) (a0 : Array Value) (hw : ∀ d ∈ tables_1, d.before a0 Z = true) (ws : List Jvm.Cond) (a1 : Addr) (h0 : Heap) (n0 : Nat) (Z0 : n0 ≤ h0.size)   : Mf l Z Nm17 jdk_18_method_1_code 1 (Option.none : Option Jvm.ClassFile.FieldType) ws RrmNum #[(.ref a1)] h0 (QrmNum Z a1 h0 n0) := by
 refine own_entry (plainFor_of_name pn_java_lang_Number) #[rv a1] (fun _ => rfl) fun p e s m below meth c s₁ hx hby hml hown hnm hlk hre hZ X0 e0 => ?_
 have N0 := Fr.nil n0
 obtain ⟨d0, d1, d4, -⟩ := D_17 hby
 refine zR X0 hx d0 rfl rfl 1 rfl ?_
 obtain ⟨T1, X1, e1, st1⟩ := initO X0 hx hZ hown (tw hw 84 rfl) (tw hw 21 rfl) (tw hw 22 rfl) e0 (g := (mkF m 1 #[rv a1] [.ref a1])) rfl (by rw [hml]; rfl) rfl d1 (by decide) (W := 0) (by show 2 * 0 + _ ≤ _; exact Nat.le_of_eq rfl) (by decide)
 refine zt 4 [] st1 ?_
 exact own_finV X1 hx hlk hre d4 e1 (K := _) ⟨rfl, N0, rfl⟩ (by decide) (by decide)
def QrmMiA1 (Z : State) (u : Addr) (ma : Addr) (k : ClassId) (x : Int32) (h0 : Heap) (n0 : Nat) (v : Option Value) (h : Heap) (L : List Loc) : Prop := v = none ∧ Fr n0 L ∧ Keep h0 h [u] ∧ (Exa Z h u "java/math/MutableBigInteger") ∧ (Fld Z h u "java/math/MutableBigInteger" "value" "[I" (.ref ma)) ∧ (Fld Z h u "java/math/MutableBigInteger" "intLen" "I" (.int (1 : Int32))) ∧ (Fld Z h u "java/math/MutableBigInteger" "offset" "I" (.int (0 : Int32)))
abbrev RrmMiA1 : Room := { frames := 1, cells := 0, slots := 0, locals := 12 }
theorem rmMiA1 (l : Launch) (Z : State) (a0 : Array Value) (hw : ∀ d ∈ tables_1, d.before a0 Z = true) (ws : List Jvm.Cond) (u : Addr) (ma : Addr) (k : ClassId) (x : Int32) (h0 : Heap) (n0 : Nat) (Z0 : n0 ≤ h0.size)  (p_Exa_u : Exa Z h0 u "java/math/MutableBigInteger") (p_Fld_u_value : Fld Z h0 u "java/math/MutableBigInteger" "value" "[I" .null) (p_Fld_u_intLen : Fld Z h0 u "java/math/MutableBigInteger" "intLen" "I" (.int (0 : Int32))) (p_Fld_u_offset : Fld Z h0 u "java/math/MutableBigInteger" "offset" "I" (.int (0 : Int32))) (ge1 : n0 ≤ u) (p_Arv_ma : Arv Z h0 ma k .int (1 : Int32) [(.int x)] (.int (0 : Int32))) (ne2 : ma ≠ u) : Mf l Z Nm18 jdk_2101_method_3_code 2 (Option.none : Option Jvm.ClassFile.FieldType) ws RrmMiA1 #[(.ref u), (.ref ma)] h0 (QrmMiA1 Z u ma k x h0 n0) := by
 refine own_entry (plainFor_of_name pn_java_math_MutableBigInteger) #[rv u, rv ma] (fun _ => rfl) fun p e s m below meth c s₁ hx hby hml hown hnm hlk hre hZ X0 e0 => ?_
 have N0 := Fr.nil n0
 obtain ⟨d0, d1, d4, d5, d6, d9, d10, d11, d14, d15, d16, d17, d20, -⟩ := D_18 hby
 refine zR X0 hx d0 rfl rfl 1 rfl ?_
 obtain ⟨T1, X1, e1, st1⟩ := initO X0 hx hZ hown (tw hw 134 rfl) (tw hw 21 rfl) (tw hw 22 rfl) e0 (g := (mkF m 1 #[rv u, rv ma] [.ref u])) rfl (by rw [hml]; rfl) rfl d1 (by decide) (W := 0) (by show 2 * 0 + _ ≤ _; exact Nat.le_of_eq rfl) (by decide)
 refine zt 4 [] st1 ?_
 refine zR X1 hx d4 rfl rfl 5 rfl ?_
 refine zK X1 hx d5 0 rfl 6 rfl ?_
 obtain ⟨T2, h2, X2, e2, W2, st2⟩ := putF X1 hx hZ hown (host := "") (Or.inl (tw hw 135 rfl)) Via.refl e1 p_Fld_u_offset p_Exa_u (Or.inl (tw hw 136 rfl)) (tw hw 128 rfl) pf_0 rfl rfl (g := (mkF m 6 #[rv u, rv ma] [.int 0, .ref u])) rfl rfl d6
 have N2 := Fr.snoc X2 N0 ge1
 have Fw2 : Fld Z h2 u "java/math/MutableBigInteger" "offset" "I" (.int (0 : Int32)) := p_Fld_u_offset.same W2
 refine zt 9 [] st2 ?_
 refine zR X2 hx d9 rfl rfl 10 rfl ?_
 refine zR X2 hx d10 rfl rfl 11 rfl ?_
 have F3 := (p_Exa_u.wr W2)
 have F4 := (p_Fld_u_value.other W2 (Or.inr (sn_java_math_MutableBigInteger_value__offset hw)))
 obtain ⟨T5, h5, X5, e5, W5, st5⟩ := putF X2 hx hZ hown (host := "") (Or.inl (tw hw 137 rfl)) Via.refl e2 F4 F3 (Or.inl (tw hw 138 rfl)) (tw hw 128 rfl) pf_1 rfl rfl (g := (mkF m 11 #[rv u, rv ma] [.ref ma, .ref u])) rfl rfl d11
 have N5 := Fr.snoc X5 N2 ge1
 have Fw5 : Fld Z h5 u "java/math/MutableBigInteger" "value" "[I" (.ref ma) := F4.same W5
 refine zt 14 [] st5 ?_
 refine zR X5 hx d14 rfl rfl 15 rfl ?_
 refine zR X5 hx d15 rfl rfl 16 rfl ?_
 have F6 := ((p_Arv_ma.other W2 ne2).other W5 ne2)
 refine zLn X5 hx hZ e5 F6 d16 17 rfl ?_
 have F8 := (F3.wr W5)
 have F9 := ((p_Fld_u_intLen.other W2 (Or.inr (sn_java_math_MutableBigInteger_intLen__offset hw))).other W5 (Or.inr (sn_java_math_MutableBigInteger_intLen__value hw)))
 obtain ⟨T10, h10, X10, e10, W10, st10⟩ := putF X5 hx hZ hown (host := "") (Or.inl (tw hw 139 rfl)) Via.refl e5 F9 F8 (Or.inl (tw hw 140 rfl)) (tw hw 128 rfl) pf_0 rfl rfl (g := (mkF m 17 #[rv u, rv ma] [.int 1, .ref u])) rfl rfl d17
 have N10 := Fr.snoc X10 N5 ge1
 have Fw10 : Fld Z h10 u "java/math/MutableBigInteger" "intLen" "I" (.int (1 : Int32)) := F9.same W10
 refine zt 20 [] st10 ?_
 have F11 := (F8.wr W10)
 have F12 := (Fw5.other W10 (Or.inr (sn_java_math_MutableBigInteger_value__intLen hw)))
 have F13 := ((Fw2.other W5 (Or.inr (sn_java_math_MutableBigInteger_offset__value hw))).other W10 (Or.inr (sn_java_math_MutableBigInteger_offset__intLen hw)))
 exact own_finV X10 hx hlk hre d20 e10 (K := _) ⟨rfl, N10, ((((Keep.refl h0 [u]).wr W2 (Or.inl (List.mem_of_getElem? (i := 0) rfl))).wr W5 (Or.inl (List.mem_of_getElem? (i := 0) rfl))).wr W10 (Or.inl (List.mem_of_getElem? (i := 0) rfl))), F11, F12, Fw10, F13⟩ (by decide) (by decide)
def QrmBiA1 (Z : State) (a1 : Addr) (ma : Addr) (k : ClassId) (p1 : Int32) (x : Int32) (h0 : Heap) (n0 : Nat) (v : Option Value) (h : Heap) (L : List Loc) : Prop := v = none ∧ Fr n0 L ∧ Keep h0 h [a1] ∧ (Exa Z h a1 "java/math/BigInteger") ∧ (Fld Z h a1 "java/math/BigInteger" "signum" "I" (.int p1)) ∧ (Fld Z h a1 "java/math/BigInteger" "mag" "[I" (.ref ma))
abbrev RrmBiA1 : Room := { frames := 2, cells := 0, slots := 0, locals := 24 }
theorem rmBiA1 (l : Launch) (Z : State) (a0 : Array Value) (hw : ∀ d ∈ tables_1, d.before a0 Z = true) (ws : List Jvm.Cond) (a1 : Addr) (ma : Addr) (k : ClassId) (p1 : Int32) (x : Int32) (h0 : Heap) (n0 : Nat) (Z0 : n0 ≤ h0.size)  (p_Exa_a1 : Exa Z h0 a1 "java/math/BigInteger") (p_Fld_a1_signum : Fld Z h0 a1 "java/math/BigInteger" "signum" "I" (.int (0 : Int32))) (p_Fld_a1_mag : Fld Z h0 a1 "java/math/BigInteger" "mag" "[I" .null) (ge1 : n0 ≤ a1) (p_Arv_ma : Arv Z h0 ma k .int (1 : Int32) [(.int x)] (.int (0 : Int32))) (ne2 : ma ≠ a1) : Mf l Z Nm19 jdk_2097_method_25_code 3 (Option.none : Option Jvm.ClassFile.FieldType) ws RrmBiA1 #[(.ref a1), (.ref ma), (.int p1)] h0 (QrmBiA1 Z a1 ma k p1 x h0 n0) := by
 refine own_entry (plainFor_of_name pn_java_math_BigInteger) #[rv a1, rv ma, iv p1] (fun _ => rfl) fun p e s m below meth c s₁ hx hby hml hown hnm hlk hre hZ X0 e0 => ?_
 have N0 := Fr.nil n0
 obtain ⟨d0, d1, d4, d5, d6, d7, d14, d15, d18, d19, d20, d23, d24, d27, d28, d30, d37, -⟩ := D_19 hby
 refine zR X0 hx d0 rfl rfl 1 rfl ?_
 refine zCI X0 hx hZ hml rfl rfl hown (tw hw 78 rfl) (tw hw 79 rfl) (tw hw 82 rfl) (tw hw 83 rfl) (rmNum l Z a0 hw [] a1 h0 n0 Z0) 0 (by decide) a1 [] rfl rfl (lenOf pd_2 rfl) rfl (Nat.le_of_eq rfl) e0 d1 4 rfl fun T1 L1 v1 X1 ⟨Lc1, hQ1, l1⟩ => ?_
 obtain ⟨rfl, Nq1, eh1⟩ := hQ1
 have N1 := own_frApp N0 Nq1 l1
 refine zx [] rfl ?_
 refine zR X1 hx d4 rfl rfl 5 rfl ?_
 refine zR X1 hx d5 rfl rfl 6 rfl ?_
 refine zLn X1 hx hZ eh1 p_Arv_ma d6 7 rfl ?_
 refine zY X1 hx d7 ((if0 _ _).trans (feq (by decide : ¬ ((1 : Int32) = (0 : Int32)))).2) 14 (by decide) ?_
 refine zI X1 hx d14 rfl 15 rfl ?_
 obtain ⟨T3, h3, X3, e3, W3, st3⟩ := putF X1 hx hZ hown (host := "") (Or.inl (tw hw 47 rfl)) Via.refl eh1 p_Fld_a1_signum p_Exa_a1 (Or.inr ⟨(tw hw 48 rfl), rfl, hnm⟩) (tw hw 62 rfl) pf_0 rfl rfl (g := (mkF m 15 #[rv a1, rv ma, iv p1] [.int p1, .ref a1])) rfl rfl d15
 have N3 := Fr.snoc X3 N1 ge1
 have Fw3 : Fld Z h3 a1 "java/math/BigInteger" "signum" "I" (.int p1) := p_Fld_a1_signum.same W3
 refine zt 18 [] st3 ?_
 refine zR X3 hx d18 rfl rfl 19 rfl ?_
 refine zR X3 hx d19 rfl rfl 20 rfl ?_
 have F4 := (p_Exa_a1.wr W3)
 have F5 := (p_Fld_a1_mag.other W3 (Or.inr (sn_java_math_BigInteger_mag__signum hw)))
 obtain ⟨T6, h6, X6, e6, W6, st6⟩ := putF X3 hx hZ hown (host := "") (Or.inl (tw hw 49 rfl)) Via.refl e3 F5 F4 (Or.inr ⟨(tw hw 50 rfl), rfl, hnm⟩) (tw hw 62 rfl) pf_1 rfl rfl (g := (mkF m 20 #[rv a1, rv ma, iv p1] [.ref ma, .ref a1])) rfl rfl d20
 have N6 := Fr.snoc X6 N3 ge1
 have Fw6 : Fld Z h6 a1 "java/math/BigInteger" "mag" "[I" (.ref ma) := F5.same W6
 refine zt 23 [] st6 ?_
 refine zR X6 hx d23 rfl rfl 24 rfl ?_
 refine zP X6 hx hZ hown (tw hw 49 rfl) e6 Fw6 d24 27 rfl fun T7 X7 e7 => ?_
 have F8 := ((p_Arv_ma.other W3 ne2).other W6 ne2)
 refine zLn X7 hx hZ e7 F8 d27 28 rfl ?_
 refine zq 30 [.int 67108864, .int 1] (fun t k => X7.ldcInt hx hown (mvT hZ (tw hw 85 rfl)) (g := (mkF m 28 #[rv a1, rv ma, iv p1] [.int 1])) rfl d28 _ k) ?_
 refine zCY X7 hx d30 (tlt (by decide : ((1 : Int32) < (67108864 : Int32)))).1 37 (by decide) ?_
 have F10 := (F4.wr W6)
 have F11 := (Fw3.other W6 (Or.inr (sn_java_math_BigInteger_signum__mag hw)))
 exact own_finV X7 hx hlk hre d37 e7 (K := _) ⟨rfl, N6, (((Keep.refl h0 [a1]).wr W3 (Or.inl (List.mem_of_getElem? (i := 0) rfl))).wr W6 (Or.inl (List.mem_of_getElem? (i := 0) rfl))), F10, F11, Fw6⟩ (by decide) (by decide)
def QrmGma1 (Z : State) (u : Addr) (ua : Addr) (k : ClassId) (x : Int32) (h0 : Heap) (n0 : Nat) (v : Option Value) (h : Heap) (L : List Loc) : Prop := v = some (.ref ua) ∧ Fr n0 L ∧ h = h0
abbrev RrmGma1 : Room := { frames := 0, cells := 0, slots := 0, locals := 0 }
theorem rmGma1 (l : Launch) (Z : State) (a0 : Array Value) (hw : ∀ d ∈ tables_1, d.before a0 Z = true) (ws : List Jvm.Cond) (u : Addr) (ua : Addr) (k : ClassId) (x : Int32) (h0 : Heap) (n0 : Nat) (Z0 : n0 ≤ h0.size)  (p_Exa_u : Exa Z h0 u "java/math/MutableBigInteger") (p_Fld_u_value : Fld Z h0 u "java/math/MutableBigInteger" "value" "[I" (.ref ua)) (p_Fld_u_intLen : Fld Z h0 u "java/math/MutableBigInteger" "intLen" "I" (.int (1 : Int32))) (p_Fld_u_offset : Fld Z h0 u "java/math/MutableBigInteger" "offset" "I" (.int (0 : Int32))) (p_Arv_ua : Arv Z h0 ua k .int (1 : Int32) [(.int x)] (.int (0 : Int32))) : Mf l Z Nm20 jdk_2101_method_7_code 2 (Option.some (Jvm.ClassFile.FieldType.array Jvm.ClassFile.FieldType.int)) ws RrmGma1 #[(.ref u)] h0 (QrmGma1 Z u ua k x h0 n0) := by
 refine own_entry (plainFor_of_name pn_java_math_MutableBigInteger) #[rv u, .unset] (fun _ => rfl) fun p e s m below meth c s₁ hx hby hml hown hnm hlk hre hZ X0 e0 => ?_
 have N0 := Fr.nil n0
 obtain ⟨d0, d1, d4, d7, d8, d11, d12, d13, d16, d64, d65, d68, -⟩ := D_20 hby
 refine zR X0 hx d0 rfl rfl 1 rfl ?_
 refine zP X0 hx hZ hown (tw hw 135 rfl) e0 p_Fld_u_offset d1 4 rfl fun T1 X1 e1 => ?_
 refine zN X1 hx d4 ((if0 _ _).trans (flt (by decide : ¬ ((0 : Int32) < (0 : Int32)))).2.2.1) 7 rfl ?_
 refine zR X1 hx d7 rfl rfl 8 rfl ?_
 refine zP X1 hx hZ hown (tw hw 137 rfl) e1 p_Fld_u_value d8 11 rfl fun T2 X2 e2 => ?_
 refine zLn X2 hx hZ e2 p_Arv_ua d11 12 rfl ?_
 refine zR X2 hx d12 rfl rfl 13 rfl ?_
 refine zP X2 hx hZ hown (tw hw 139 rfl) e2 p_Fld_u_intLen d13 16 rfl fun T4 X4 e4 => ?_
 refine zCY X4 hx d16 (teq (by decide : ((1 : Int32) = (1 : Int32)))).1 64 (by decide) ?_
 refine zR X4 hx d64 rfl rfl 65 rfl ?_
 refine zP X4 hx hZ hown (tw hw 137 rfl) e4 p_Fld_u_value d65 68 rfl fun T5 X5 e5 => ?_
 exact own_finR X5 hx hlk hre rfl rfl d68 e5 ⟨rfl, N0, rfl⟩ (by decide) (by decide)
def QrmTb1 (Z : State) (u : Addr) (ua : Addr) (k : ClassId) (p1 : Int32) (x : Int32) (h0 : Heap) (n0 : Nat) (v : Option Value) (h : Heap) (L : List Loc) : Prop := ∃ r : Addr, v = some (.ref r) ∧ Fr n0 L ∧ Keep h0 h [] ∧ (h0.size ≤ r) ∧ (Exa Z h r "java/math/BigInteger") ∧ (Fld Z h r "java/math/BigInteger" "signum" "I" (.int p1)) ∧ (Fld Z h r "java/math/BigInteger" "mag" "[I" (.ref ua))
abbrev RrmTb1 : Room := { frames := 3, cells := 1, slots := 6, locals := 39 }
theorem rmTb1 (l : Launch) (Z : State) (a0 : Array Value) (hw : ∀ d ∈ tables_1, d.before a0 Z = true) (ws : List Jvm.Cond) (u : Addr) (ua : Addr) (k : ClassId) (p1 : Int32) (x : Int32) (h0 : Heap) (n0 : Nat) (Z0 : n0 ≤ h0.size)  (p_Exa_u : Exa Z h0 u "java/math/MutableBigInteger") (p_Fld_u_value : Fld Z h0 u "java/math/MutableBigInteger" "value" "[I" (.ref ua)) (p_Fld_u_intLen : Fld Z h0 u "java/math/MutableBigInteger" "intLen" "I" (.int (1 : Int32))) (p_Fld_u_offset : Fld Z h0 u "java/math/MutableBigInteger" "offset" "I" (.int (0 : Int32))) (p_Arv_ua : Arv Z h0 ua k .int (1 : Int32) [(.int x)] (.int (0 : Int32))) (hz : ¬ p1 = (0 : Int32)) : Mf l Z Nm21 jdk_2101_method_9_code 2 (Option.some (Jvm.ClassFile.FieldType.object "java/math/BigInteger")) ws RrmTb1 #[(.ref u), (.int p1)] h0 (QrmTb1 Z u ua k p1 x h0 n0) := by
 refine own_entry (plainFor_of_name pn_java_math_MutableBigInteger) #[rv u, iv p1] (fun _ => rfl) fun p e s m below meth c s₁ hx hby hml hown hnm hlk hre hZ X0 e0 => ?_
 have N0 := Fr.nil n0
 obtain ⟨d0, d1, d4, d7, d8, -, -, d15, d18, d19, d20, d23, d24, d27, -⟩ := D_21 hby
 refine zR X0 hx d0 rfl rfl 1 rfl ?_
 refine zP X0 hx hZ hown (tw hw 139 rfl) e0 p_Fld_u_intLen d1 4 rfl fun T1 X1 e1 => ?_
 refine zN X1 hx d4 ((if0 _ _).trans (feq (by decide : ¬ ((1 : Int32) = (0 : Int32)))).1) 7 rfl ?_
 refine zI X1 hx d7 rfl 8 rfl ?_
 refine zY X1 hx d8 ((if0 _ _).trans (feq hz).2) 15 (by decide) ?_
 obtain ⟨T2, h2, X2, e2, E2, A2, D2, -, st2⟩ := newO X1 hx hZ hown (tw hw 161 rfl) (tw hw 62 rfl) (tw hw 13 rfl) e1 (g := (mkF m 15 #[rv u, iv p1] [])) rfl d15 (by decide) (by decide)
 obtain ⟨b2, g2⟩ : ∃ z, z = h0.size := ⟨_, rfl⟩
 rw [← g2] at A2 D2 st2
 have X2 := own_reX X2 (rfl : _ = 1) (rfl : _ = 6)
 refine zt 18 [.ref b2] st2 ?_
 refine zD X2 hx d18 rfl 19 rfl ?_
 refine zR X2 hx d19 rfl rfl 20 rfl ?_
 have F3 := (p_Exa_u.ext E2)
 have F4 := (p_Fld_u_value.ext E2)
 have F5 := (p_Fld_u_intLen.ext E2)
 have F6 := (p_Fld_u_offset.ext E2)
 have F7 := (p_Arv_ua.ext E2)
 refine zCP X2 hx hZ hml hown (tw hw 162 rfl) (tw hw 164 rfl) (tw hw 129 rfl) (tw hw 166 rfl) (tw hw 165 rfl) (tw hw 163 rfl) (rmGma1 l Z a0 hw [] u ua k x h2 n0 (Nat.le_trans Z0 E2.1) F3 F4 F5 F6 F7) 2 (by decide) u [.ref b2, .ref b2] rfl rfl (lenOf pd_8 rfl) rfl (Nat.le_of_eq rfl) e2 F3 d20 23 rfl fun T8 L8 v8 X8 ⟨Lc8, hQ8, l8⟩ => ?_
 obtain ⟨rfl, Nq8, eh8⟩ := hQ8
 have N8 := own_frApp N0 Nq8 l8
 refine zx [.ref ua, .ref b2, .ref b2] rfl ?_
 refine zI X8 hx d23 rfl 24 rfl ?_
 refine zCI X8 hx hZ hml rfl rfl hown (tw hw 167 rfl) (tw hw 75 rfl) (tw hw 13 rfl) (tw hw 77 rfl) (rmBiA1 l Z a0 hw [] b2 ua k p1 x h2 n0 (Nat.le_trans Z0 E2.1) A2 (D2 (Or.inr (tw hw 48 rfl)) pf_0) (D2 (Or.inr (tw hw 50 rfl)) pf_1) (Nat.le_trans (Nat.le_trans Z0 (Nat.le_refl _)) (Nat.le_of_eq g2.symm)) F7 (Nat.ne_of_lt (Nat.lt_of_lt_of_le p_Arv_ua.lt (Nat.le_of_eq g2.symm)))) 1 (by decide) b2 [.ref b2] rfl rfl (lenOf pd_9 rfl) rfl (Nat.le_of_eq rfl) eh8 d24 27 rfl fun T9 L9 v9 X9 ⟨Lc9, hQ9, l9⟩ => ?_
 obtain ⟨rfl, Nq9, K9, f9_0, f9_1, f9_2⟩ := hQ9
 have N9 := own_frApp N8 Nq9 l9
 refine zx [.ref b2] rfl ?_
 have K10 : Keep h0 T9.heap [] := (((Keep.refl h0 []).ext E2).trans K9 (allS (Or.inr (Nat.le_trans (Nat.le_refl _) (Nat.le_of_eq g2.symm))) all0))
 exact own_finR X9 hx hlk hre rfl rfl d27 rfl ⟨b2, rfl, N9, ((Keep.refl h0 []).trans K10 all0), (Nat.le_trans (Nat.le_refl _) (Nat.le_of_eq g2.symm)), f9_0, f9_1, f9_2⟩ (by decide) (by decide)
def QrmMiA2 (Z : State) (u : Addr) (ma : Addr) (k : ClassId) (x : Int32) (y : Int32) (h0 : Heap) (n0 : Nat) (v : Option Value) (h : Heap) (L : List Loc) : Prop := v = none ∧ Fr n0 L ∧ Keep h0 h [u] ∧ (Exa Z h u "java/math/MutableBigInteger") ∧ (Fld Z h u "java/math/MutableBigInteger" "value" "[I" (.ref ma)) ∧ (Fld Z h u "java/math/MutableBigInteger" "intLen" "I" (.int (2 : Int32))) ∧ (Fld Z h u "java/math/MutableBigInteger" "offset" "I" (.int (0 : Int32)))
abbrev RrmMiA2 : Room := { frames := 1, cells := 0, slots := 0, locals := 12 }
theorem rmMiA2 (l : Launch) (Z : State) (a0 : Array Value) (hw : ∀ d ∈ tables_1, d.before a0 Z = true) (ws : List Jvm.Cond) (u : Addr) (ma : Addr) (k : ClassId) (x : Int32) (y : Int32) (h0 : Heap) (n0 : Nat) (Z0 : n0 ≤ h0.size)  (p_Exa_u : Exa Z h0 u "java/math/MutableBigInteger") (p_Fld_u_value : Fld Z h0 u "java/math/MutableBigInteger" "value" "[I" .null) (p_Fld_u_intLen : Fld Z h0 u "java/math/MutableBigInteger" "intLen" "I" (.int (0 : Int32))) (p_Fld_u_offset : Fld Z h0 u "java/math/MutableBigInteger" "offset" "I" (.int (0 : Int32))) (ge1 : n0 ≤ u) (p_Arv_ma : Arv Z h0 ma k .int (2 : Int32) [(.int x), (.int y)] (.int (0 : Int32))) (ne2 : ma ≠ u) : Mf l Z Nm18 jdk_2101_method_3_code 2 (Option.none : Option Jvm.ClassFile.FieldType) ws RrmMiA2 #[(.ref u), (.ref ma)] h0 (QrmMiA2 Z u ma k x y h0 n0) := by
 refine own_entry (plainFor_of_name pn_java_math_MutableBigInteger) #[rv u, rv ma] (fun _ => rfl) fun p e s m below meth c s₁ hx hby hml hown hnm hlk hre hZ X0 e0 => ?_
 have N0 := Fr.nil n0
 obtain ⟨d0, d1, d4, d5, d6, d9, d10, d11, d14, d15, d16, d17, d20, -⟩ := D_18 hby
 refine zR X0 hx d0 rfl rfl 1 rfl ?_
 obtain ⟨T1, X1, e1, st1⟩ := initO X0 hx hZ hown (tw hw 134 rfl) (tw hw 21 rfl) (tw hw 22 rfl) e0 (g := (mkF m 1 #[rv u, rv ma] [.ref u])) rfl (by rw [hml]; rfl) rfl d1 (by decide) (W := 0) (by show 2 * 0 + _ ≤ _; exact Nat.le_of_eq rfl) (by decide)
 refine zt 4 [] st1 ?_
 refine zR X1 hx d4 rfl rfl 5 rfl ?_
 refine zK X1 hx d5 0 rfl 6 rfl ?_
 obtain ⟨T2, h2, X2, e2, W2, st2⟩ := putF X1 hx hZ hown (host := "") (Or.inl (tw hw 135 rfl)) Via.refl e1 p_Fld_u_offset p_Exa_u (Or.inl (tw hw 136 rfl)) (tw hw 128 rfl) pf_0 rfl rfl (g := (mkF m 6 #[rv u, rv ma] [.int 0, .ref u])) rfl rfl d6
 have N2 := Fr.snoc X2 N0 ge1
 have Fw2 : Fld Z h2 u "java/math/MutableBigInteger" "offset" "I" (.int (0 : Int32)) := p_Fld_u_offset.same W2
 refine zt 9 [] st2 ?_
 refine zR X2 hx d9 rfl rfl 10 rfl ?_
 refine zR X2 hx d10 rfl rfl 11 rfl ?_
 have F3 := (p_Exa_u.wr W2)
 have F4 := (p_Fld_u_value.other W2 (Or.inr (sn_java_math_MutableBigInteger_value__offset hw)))
 obtain ⟨T5, h5, X5, e5, W5, st5⟩ := putF X2 hx hZ hown (host := "") (Or.inl (tw hw 137 rfl)) Via.refl e2 F4 F3 (Or.inl (tw hw 138 rfl)) (tw hw 128 rfl) pf_1 rfl rfl (g := (mkF m 11 #[rv u, rv ma] [.ref ma, .ref u])) rfl rfl d11
 have N5 := Fr.snoc X5 N2 ge1
 have Fw5 : Fld Z h5 u "java/math/MutableBigInteger" "value" "[I" (.ref ma) := F4.same W5
 refine zt 14 [] st5 ?_
 refine zR X5 hx d14 rfl rfl 15 rfl ?_
 refine zR X5 hx d15 rfl rfl 16 rfl ?_
 have F6 := ((p_Arv_ma.other W2 ne2).other W5 ne2)
 refine zLn X5 hx hZ e5 F6 d16 17 rfl ?_
 have F8 := (F3.wr W5)
 have F9 := ((p_Fld_u_intLen.other W2 (Or.inr (sn_java_math_MutableBigInteger_intLen__offset hw))).other W5 (Or.inr (sn_java_math_MutableBigInteger_intLen__value hw)))
 obtain ⟨T10, h10, X10, e10, W10, st10⟩ := putF X5 hx hZ hown (host := "") (Or.inl (tw hw 139 rfl)) Via.refl e5 F9 F8 (Or.inl (tw hw 140 rfl)) (tw hw 128 rfl) pf_0 rfl rfl (g := (mkF m 17 #[rv u, rv ma] [.int 2, .ref u])) rfl rfl d17
 have N10 := Fr.snoc X10 N5 ge1
 have Fw10 : Fld Z h10 u "java/math/MutableBigInteger" "intLen" "I" (.int (2 : Int32)) := F9.same W10
 refine zt 20 [] st10 ?_
 have F11 := (F8.wr W10)
 have F12 := (Fw5.other W10 (Or.inr (sn_java_math_MutableBigInteger_value__intLen hw)))
 have F13 := ((Fw2.other W5 (Or.inr (sn_java_math_MutableBigInteger_offset__value hw))).other W10 (Or.inr (sn_java_math_MutableBigInteger_offset__intLen hw)))
 exact own_finV X10 hx hlk hre d20 e10 (K := _) ⟨rfl, N10, ((((Keep.refl h0 [u]).wr W2 (Or.inl (List.mem_of_getElem? (i := 0) rfl))).wr W5 (Or.inl (List.mem_of_getElem? (i := 0) rfl))).wr W10 (Or.inl (List.mem_of_getElem? (i := 0) rfl))), F11, F12, Fw10, F13⟩ (by decide) (by decide)
def QrmBiA2 (Z : State) (a1 : Addr) (ma : Addr) (k : ClassId) (p1 : Int32) (x : Int32) (y : Int32) (h0 : Heap) (n0 : Nat) (v : Option Value) (h : Heap) (L : List Loc) : Prop := v = none ∧ Fr n0 L ∧ Keep h0 h [a1] ∧ (Exa Z h a1 "java/math/BigInteger") ∧ (Fld Z h a1 "java/math/BigInteger" "signum" "I" (.int p1)) ∧ (Fld Z h a1 "java/math/BigInteger" "mag" "[I" (.ref ma))
abbrev RrmBiA2 : Room := { frames := 2, cells := 0, slots := 0, locals := 24 }
theorem rmBiA2 (l : Launch) (Z : State) (a0 : Array Value) (hw : ∀ d ∈ tables_1, d.before a0 Z = true) (ws : List Jvm.Cond) (a1 : Addr) (ma : Addr) (k : ClassId) (p1 : Int32) (x : Int32) (y : Int32) (h0 : Heap) (n0 : Nat) (Z0 : n0 ≤ h0.size)  (p_Exa_a1 : Exa Z h0 a1 "java/math/BigInteger") (p_Fld_a1_signum : Fld Z h0 a1 "java/math/BigInteger" "signum" "I" (.int (0 : Int32))) (p_Fld_a1_mag : Fld Z h0 a1 "java/math/BigInteger" "mag" "[I" .null) (ge1 : n0 ≤ a1) (p_Arv_ma : Arv Z h0 ma k .int (2 : Int32) [(.int x), (.int y)] (.int (0 : Int32))) (ne2 : ma ≠ a1) : Mf l Z Nm19 jdk_2097_method_25_code 3 (Option.none : Option Jvm.ClassFile.FieldType) ws RrmBiA2 #[(.ref a1), (.ref ma), (.int p1)] h0 (QrmBiA2 Z a1 ma k p1 x y h0 n0) := by
 refine own_entry (plainFor_of_name pn_java_math_BigInteger) #[rv a1, rv ma, iv p1] (fun _ => rfl) fun p e s m below meth c s₁ hx hby hml hown hnm hlk hre hZ X0 e0 => ?_
 have N0 := Fr.nil n0
 obtain ⟨d0, d1, d4, d5, d6, d7, d14, d15, d18, d19, d20, d23, d24, d27, d28, d30, d37, -⟩ := D_19 hby
 refine zR X0 hx d0 rfl rfl 1 rfl ?_
 refine zCI X0 hx hZ hml rfl rfl hown (tw hw 78 rfl) (tw hw 79 rfl) (tw hw 82 rfl) (tw hw 83 rfl) (rmNum l Z a0 hw [] a1 h0 n0 Z0) 0 (by decide) a1 [] rfl rfl (lenOf pd_2 rfl) rfl (Nat.le_of_eq rfl) e0 d1 4 rfl fun T1 L1 v1 X1 ⟨Lc1, hQ1, l1⟩ => ?_
 obtain ⟨rfl, Nq1, eh1⟩ := hQ1
 have N1 := own_frApp N0 Nq1 l1
 refine zx [] rfl ?_
 refine zR X1 hx d4 rfl rfl 5 rfl ?_
 refine zR X1 hx d5 rfl rfl 6 rfl ?_
 refine zLn X1 hx hZ eh1 p_Arv_ma d6 7 rfl ?_
 refine zY X1 hx d7 ((if0 _ _).trans (feq (by decide : ¬ ((2 : Int32) = (0 : Int32)))).2) 14 (by decide) ?_
 refine zI X1 hx d14 rfl 15 rfl ?_
 obtain ⟨T3, h3, X3, e3, W3, st3⟩ := putF X1 hx hZ hown (host := "") (Or.inl (tw hw 47 rfl)) Via.refl eh1 p_Fld_a1_signum p_Exa_a1 (Or.inr ⟨(tw hw 48 rfl), rfl, hnm⟩) (tw hw 62 rfl) pf_0 rfl rfl (g := (mkF m 15 #[rv a1, rv ma, iv p1] [.int p1, .ref a1])) rfl rfl d15
 have N3 := Fr.snoc X3 N1 ge1
 have Fw3 : Fld Z h3 a1 "java/math/BigInteger" "signum" "I" (.int p1) := p_Fld_a1_signum.same W3
 refine zt 18 [] st3 ?_
 refine zR X3 hx d18 rfl rfl 19 rfl ?_
 refine zR X3 hx d19 rfl rfl 20 rfl ?_
 have F4 := (p_Exa_a1.wr W3)
 have F5 := (p_Fld_a1_mag.other W3 (Or.inr (sn_java_math_BigInteger_mag__signum hw)))
 obtain ⟨T6, h6, X6, e6, W6, st6⟩ := putF X3 hx hZ hown (host := "") (Or.inl (tw hw 49 rfl)) Via.refl e3 F5 F4 (Or.inr ⟨(tw hw 50 rfl), rfl, hnm⟩) (tw hw 62 rfl) pf_1 rfl rfl (g := (mkF m 20 #[rv a1, rv ma, iv p1] [.ref ma, .ref a1])) rfl rfl d20
 have N6 := Fr.snoc X6 N3 ge1
 have Fw6 : Fld Z h6 a1 "java/math/BigInteger" "mag" "[I" (.ref ma) := F5.same W6
 refine zt 23 [] st6 ?_
 refine zR X6 hx d23 rfl rfl 24 rfl ?_
 refine zP X6 hx hZ hown (tw hw 49 rfl) e6 Fw6 d24 27 rfl fun T7 X7 e7 => ?_
 have F8 := ((p_Arv_ma.other W3 ne2).other W6 ne2)
 refine zLn X7 hx hZ e7 F8 d27 28 rfl ?_
 refine zq 30 [.int 67108864, .int 2] (fun t k => X7.ldcInt hx hown (mvT hZ (tw hw 85 rfl)) (g := (mkF m 28 #[rv a1, rv ma, iv p1] [.int 2])) rfl d28 _ k) ?_
 refine zCY X7 hx d30 (tlt (by decide : ((2 : Int32) < (67108864 : Int32)))).1 37 (by decide) ?_
 have F10 := (F4.wr W6)
 have F11 := (Fw3.other W6 (Or.inr (sn_java_math_BigInteger_signum__mag hw)))
 exact own_finV X7 hx hlk hre d37 e7 (K := _) ⟨rfl, N6, (((Keep.refl h0 [a1]).wr W3 (Or.inl (List.mem_of_getElem? (i := 0) rfl))).wr W6 (Or.inl (List.mem_of_getElem? (i := 0) rfl))), F10, F11, Fw6⟩ (by decide) (by decide)
def QrmGma2 (Z : State) (u : Addr) (ua : Addr) (k : ClassId) (x : Int32) (y : Int32) (h0 : Heap) (n0 : Nat) (v : Option Value) (h : Heap) (L : List Loc) : Prop := v = some (.ref ua) ∧ Fr n0 L ∧ h = h0
abbrev RrmGma2 : Room := { frames := 0, cells := 0, slots := 0, locals := 0 }
theorem rmGma2 (l : Launch) (Z : State) (a0 : Array Value) (hw : ∀ d ∈ tables_1, d.before a0 Z = true) (ws : List Jvm.Cond) (u : Addr) (ua : Addr) (k : ClassId) (x : Int32) (y : Int32) (h0 : Heap) (n0 : Nat) (Z0 : n0 ≤ h0.size)  (p_Exa_u : Exa Z h0 u "java/math/MutableBigInteger") (p_Fld_u_value : Fld Z h0 u "java/math/MutableBigInteger" "value" "[I" (.ref ua)) (p_Fld_u_intLen : Fld Z h0 u "java/math/MutableBigInteger" "intLen" "I" (.int (2 : Int32))) (p_Fld_u_offset : Fld Z h0 u "java/math/MutableBigInteger" "offset" "I" (.int (0 : Int32))) (p_Arv_ua : Arv Z h0 ua k .int (2 : Int32) [(.int x), (.int y)] (.int (0 : Int32))) : Mf l Z Nm20 jdk_2101_method_7_code 2 (Option.some (Jvm.ClassFile.FieldType.array Jvm.ClassFile.FieldType.int)) ws RrmGma2 #[(.ref u)] h0 (QrmGma2 Z u ua k x y h0 n0) := by
 refine own_entry (plainFor_of_name pn_java_math_MutableBigInteger) #[rv u, .unset] (fun _ => rfl) fun p e s m below meth c s₁ hx hby hml hown hnm hlk hre hZ X0 e0 => ?_
 have N0 := Fr.nil n0
 obtain ⟨d0, d1, d4, d7, d8, d11, d12, d13, d16, d64, d65, d68, -⟩ := D_20 hby
 refine zR X0 hx d0 rfl rfl 1 rfl ?_
 refine zP X0 hx hZ hown (tw hw 135 rfl) e0 p_Fld_u_offset d1 4 rfl fun T1 X1 e1 => ?_
 refine zN X1 hx d4 ((if0 _ _).trans (flt (by decide : ¬ ((0 : Int32) < (0 : Int32)))).2.2.1) 7 rfl ?_
 refine zR X1 hx d7 rfl rfl 8 rfl ?_
 refine zP X1 hx hZ hown (tw hw 137 rfl) e1 p_Fld_u_value d8 11 rfl fun T2 X2 e2 => ?_
 refine zLn X2 hx hZ e2 p_Arv_ua d11 12 rfl ?_
 refine zR X2 hx d12 rfl rfl 13 rfl ?_
 refine zP X2 hx hZ hown (tw hw 139 rfl) e2 p_Fld_u_intLen d13 16 rfl fun T4 X4 e4 => ?_
 refine zCY X4 hx d16 (teq (by decide : ((2 : Int32) = (2 : Int32)))).1 64 (by decide) ?_
 refine zR X4 hx d64 rfl rfl 65 rfl ?_
 refine zP X4 hx hZ hown (tw hw 137 rfl) e4 p_Fld_u_value d65 68 rfl fun T5 X5 e5 => ?_
 exact own_finR X5 hx hlk hre rfl rfl d68 e5 ⟨rfl, N0, rfl⟩ (by decide) (by decide)
def QrmTb2 (Z : State) (u : Addr) (ua : Addr) (k : ClassId) (p1 : Int32) (x : Int32) (y : Int32) (h0 : Heap) (n0 : Nat) (v : Option Value) (h : Heap) (L : List Loc) : Prop := ∃ r : Addr, v = some (.ref r) ∧ Fr n0 L ∧ Keep h0 h [] ∧ (h0.size ≤ r) ∧ (Exa Z h r "java/math/BigInteger") ∧ (Fld Z h r "java/math/BigInteger" "signum" "I" (.int p1)) ∧ (Fld Z h r "java/math/BigInteger" "mag" "[I" (.ref ua))
abbrev RrmTb2 : Room := { frames := 3, cells := 1, slots := 6, locals := 39 }
theorem rmTb2 (l : Launch) (Z : State) (a0 : Array Value) (hw : ∀ d ∈ tables_1, d.before a0 Z = true) (ws : List Jvm.Cond) (u : Addr) (ua : Addr) (k : ClassId) (p1 : Int32) (x : Int32) (y : Int32) (h0 : Heap) (n0 : Nat) (Z0 : n0 ≤ h0.size)  (p_Exa_u : Exa Z h0 u "java/math/MutableBigInteger") (p_Fld_u_value : Fld Z h0 u "java/math/MutableBigInteger" "value" "[I" (.ref ua)) (p_Fld_u_intLen : Fld Z h0 u "java/math/MutableBigInteger" "intLen" "I" (.int (2 : Int32))) (p_Fld_u_offset : Fld Z h0 u "java/math/MutableBigInteger" "offset" "I" (.int (0 : Int32))) (p_Arv_ua : Arv Z h0 ua k .int (2 : Int32) [(.int x), (.int y)] (.int (0 : Int32))) (hz : ¬ p1 = (0 : Int32)) : Mf l Z Nm21 jdk_2101_method_9_code 2 (Option.some (Jvm.ClassFile.FieldType.object "java/math/BigInteger")) ws RrmTb2 #[(.ref u), (.int p1)] h0 (QrmTb2 Z u ua k p1 x y h0 n0) := by
 refine own_entry (plainFor_of_name pn_java_math_MutableBigInteger) #[rv u, iv p1] (fun _ => rfl) fun p e s m below meth c s₁ hx hby hml hown hnm hlk hre hZ X0 e0 => ?_
 have N0 := Fr.nil n0
 obtain ⟨d0, d1, d4, d7, d8, -, -, d15, d18, d19, d20, d23, d24, d27, -⟩ := D_21 hby
 refine zR X0 hx d0 rfl rfl 1 rfl ?_
 refine zP X0 hx hZ hown (tw hw 139 rfl) e0 p_Fld_u_intLen d1 4 rfl fun T1 X1 e1 => ?_
 refine zN X1 hx d4 ((if0 _ _).trans (feq (by decide : ¬ ((2 : Int32) = (0 : Int32)))).1) 7 rfl ?_
 refine zI X1 hx d7 rfl 8 rfl ?_
 refine zY X1 hx d8 ((if0 _ _).trans (feq hz).2) 15 (by decide) ?_
 obtain ⟨T2, h2, X2, e2, E2, A2, D2, -, st2⟩ := newO X1 hx hZ hown (tw hw 161 rfl) (tw hw 62 rfl) (tw hw 13 rfl) e1 (g := (mkF m 15 #[rv u, iv p1] [])) rfl d15 (by decide) (by decide)
 obtain ⟨b2, g2⟩ : ∃ z, z = h0.size := ⟨_, rfl⟩
 rw [← g2] at A2 D2 st2
 have X2 := own_reX X2 (rfl : _ = 1) (rfl : _ = 6)
 refine zt 18 [.ref b2] st2 ?_
 refine zD X2 hx d18 rfl 19 rfl ?_
 refine zR X2 hx d19 rfl rfl 20 rfl ?_
 have F3 := (p_Exa_u.ext E2)
 have F4 := (p_Fld_u_value.ext E2)
 have F5 := (p_Fld_u_intLen.ext E2)
 have F6 := (p_Fld_u_offset.ext E2)
 have F7 := (p_Arv_ua.ext E2)
 refine zCP X2 hx hZ hml hown (tw hw 162 rfl) (tw hw 164 rfl) (tw hw 129 rfl) (tw hw 166 rfl) (tw hw 165 rfl) (tw hw 163 rfl) (rmGma2 l Z a0 hw [] u ua k x y h2 n0 (Nat.le_trans Z0 E2.1) F3 F4 F5 F6 F7) 2 (by decide) u [.ref b2, .ref b2] rfl rfl (lenOf pd_8 rfl) rfl (Nat.le_of_eq rfl) e2 F3 d20 23 rfl fun T8 L8 v8 X8 ⟨Lc8, hQ8, l8⟩ => ?_
 obtain ⟨rfl, Nq8, eh8⟩ := hQ8
 have N8 := own_frApp N0 Nq8 l8
 refine zx [.ref ua, .ref b2, .ref b2] rfl ?_
 refine zI X8 hx d23 rfl 24 rfl ?_
 refine zCI X8 hx hZ hml rfl rfl hown (tw hw 167 rfl) (tw hw 75 rfl) (tw hw 13 rfl) (tw hw 77 rfl) (rmBiA2 l Z a0 hw [] b2 ua k p1 x y h2 n0 (Nat.le_trans Z0 E2.1) A2 (D2 (Or.inr (tw hw 48 rfl)) pf_0) (D2 (Or.inr (tw hw 50 rfl)) pf_1) (Nat.le_trans (Nat.le_trans Z0 (Nat.le_refl _)) (Nat.le_of_eq g2.symm)) F7 (Nat.ne_of_lt (Nat.lt_of_lt_of_le p_Arv_ua.lt (Nat.le_of_eq g2.symm)))) 1 (by decide) b2 [.ref b2] rfl rfl (lenOf pd_9 rfl) rfl (Nat.le_of_eq rfl) eh8 d24 27 rfl fun T9 L9 v9 X9 ⟨Lc9, hQ9, l9⟩ => ?_
 obtain ⟨rfl, Nq9, K9, f9_0, f9_1, f9_2⟩ := hQ9
 have N9 := own_frApp N8 Nq9 l9
 refine zx [.ref b2] rfl ?_
 have K10 : Keep h0 T9.heap [] := (((Keep.refl h0 []).ext E2).trans K9 (allS (Or.inr (Nat.le_trans (Nat.le_refl _) (Nat.le_of_eq g2.symm))) all0))
 exact own_finR X9 hx hlk hre rfl rfl d27 rfl ⟨b2, rfl, N9, ((Keep.refl h0 []).trans K10 all0), (Nat.le_trans (Nat.le_refl _) (Nat.le_of_eq g2.symm)), f9_0, f9_1, f9_2⟩ (by decide) (by decide)
def QrmTb0 (Z : State) (u : Addr) (ua : Addr) (p1 : Int32) (zA : Addr) (h0 : Heap) (n0 : Nat) (v : Option Value) (h : Heap) (L : List Loc) : Prop := v = some (.ref zA) ∧ Fr n0 L ∧ h = h0
abbrev RrmTb0 : Room := { frames := 0, cells := 0, slots := 0, locals := 0 }
theorem rmTb0 (l : Launch) (Z : State) (a0 : Array Value) (hw : ∀ d ∈ tables_1, d.before a0 Z = true) (ws : List Jvm.Cond) (u : Addr) (ua : Addr) (p1 : Int32) (h0 : Heap) (n0 : Nat) (Z0 : n0 ≤ h0.size) (zA oA pA nA : Addr) (kP kN : ClassId) (vP vN : List Value) (G0 : Gl Z zA oA pA nA kP kN vP vN) (X00 : Old Z n0 h0) (p_Exa_u : Exa Z h0 u "java/math/MutableBigInteger") (p_Fld_u_value : Fld Z h0 u "java/math/MutableBigInteger" "value" "[I" (.ref ua)) (p_Fld_u_intLen : Fld Z h0 u "java/math/MutableBigInteger" "intLen" "I" (.int (0 : Int32))) (p_Fld_u_offset : Fld Z h0 u "java/math/MutableBigInteger" "offset" "I" (.int (0 : Int32))) : Mf l Z Nm21 jdk_2101_method_9_code 2 (Option.some (Jvm.ClassFile.FieldType.object "java/math/BigInteger")) ws RrmTb0 #[(.ref u), (.int p1)] h0 (QrmTb0 Z u ua p1 zA h0 n0) := by
 refine own_entry (plainFor_of_name pn_java_math_MutableBigInteger) #[rv u, iv p1] (fun _ => rfl) fun p e s m below meth c s₁ hx hby hml hown hnm hlk hre hZ X0 e0 => ?_
 have N0 := Fr.nil n0
 obtain ⟨d0, d1, d4, -, -, d11, d14, -⟩ := D_21 hby
 obtain ⟨SZ, BZ, SO, BO, SP, AP, hcP, SN, AN, hcN⟩ := id G0
 refine zR X0 hx d0 rfl rfl 1 rfl ?_
 refine zP X0 hx hZ hown (tw hw 139 rfl) e0 p_Fld_u_intLen d1 4 rfl fun T1 X1 e1 => ?_
 refine zY X1 hx d4 ((if0 _ _).trans (teq (by decide : ((0 : Int32) = (0 : Int32)))).1) 11 (by decide) ?_
 obtain ⟨T2, X2, e2, st2⟩ := getS (host := "") X1 hx hZ hown (tw hw 154 rfl) Via.refl e1 (SZ.ext X00.2) (g := (mkF m 11 #[rv u, iv p1] [])) rfl d11
 refine zt 14 [.ref zA] st2 ?_
 exact own_finR X2 hx hlk hre rfl rfl d14 e2 ⟨rfl, N0, rfl⟩ (by decide) (by decide)
def QrmAbsB (Z : State) (a1 : Addr) (h0 : Heap) (n0 : Nat) (v : Option Value) (h : Heap) (L : List Loc) : Prop := v = some (.ref a1) ∧ Fr n0 L ∧ h = h0
abbrev RrmAbsB : Room := { frames := 0, cells := 0, slots := 0, locals := 0 }
theorem rmAbsB (l : Launch) (Z : State) (a0 : Array Value) (hw : ∀ d ∈ tables_1, d.before a0 Z = true) (ws : List Jvm.Cond) (a1 : Addr) (h0 : Heap) (n0 : Nat) (Z0 : n0 ≤ h0.size)  (p_Fld_a1_signum : Fld Z h0 a1 "java/math/BigInteger" "signum" "I" (.int (1 : Int32))) : Mf l Z Nm22 jdk_2097_method_79_code 1 (Option.some (Jvm.ClassFile.FieldType.object "java/math/BigInteger")) ws RrmAbsB #[(.ref a1)] h0 (QrmAbsB Z a1 h0 n0) := by
 refine own_entry (plainFor_of_name pn_java_math_BigInteger) #[rv a1] (fun _ => rfl) fun p e s m below meth c s₁ hx hby hml hown hnm hlk hre hZ X0 e0 => ?_
 have N0 := Fr.nil n0
 obtain ⟨d0, d1, d4, d7, d8, d15, -⟩ := D_22 hby
 refine zR X0 hx d0 rfl rfl 1 rfl ?_
 refine zP X0 hx hZ hown (tw hw 47 rfl) e0 p_Fld_a1_signum d1 4 rfl fun T1 X1 e1 => ?_
 refine zN X1 hx d4 ((if0 _ _).trans (flt (by decide : ¬ ((1 : Int32) < (0 : Int32)))).1) 7 rfl ?_
 refine zR X1 hx d7 rfl rfl 8 rfl ?_
 refine zG X1 hx d8 15 (by decide) ?_
 exact own_finR X1 hx hlk hre rfl rfl d15 e1 ⟨rfl, N0, rfl⟩ (by decide) (by decide)
def QrmGcd (Z : State) (a : Addr) (b : Addr) (vv : Int) (h0 : Heap) (n0 : Nat) (v : Option Value) (h : Heap) (L : List Loc) : Prop := ∃ g : Addr, v = some (.ref g) ∧ Fr n0 L ∧ Keep h0 h [] ∧ (BI Z h g (1 : Int))
abbrev RrmGcd : Room := { frames := 5, cells := 9, slots := 23, locals := 82 }
theorem rmGcd (l : Launch) (Z : State) (a0 : Array Value) (hw : ∀ d ∈ tables_1, d.before a0 Z = true) (ws : List Jvm.Cond) (a : Addr) (b : Addr) (vv : Int) (h0 : Heap) (n0 : Nat) (Z0 : n0 ≤ h0.size)  (p_BI_a : BI Z h0 a vv) (p_BI_b : BI Z h0 b (1 : Int)) : Mf l Z Nm23 jdk_2097_method_73_code 5 (Option.some (Jvm.ClassFile.FieldType.object "java/math/BigInteger")) ws RrmGcd #[(.ref a), (.ref b)] h0 (QrmGcd Z a b vv h0 n0) := by
 refine own_entry (plainFor_of_name pn_java_math_BigInteger) #[rv a, rv b, .unset, .unset, .unset] (fun _ => rfl) fun p e s m below meth c s₁ hx hby hml hown hnm hlk hre hZ X0 e0 => ?_
 have N0 := Fr.nil n0
 obtain ⟨d0, d1, d4, d12, d13, d16, d19, d20, d23, d24, d27, d28, d29, d32, d33, d36, d37, d38, d41, d42, d43, d44, d47, d49, d51, d52, d55, -⟩ := D_23 hby
 obtain ⟨m1, km1, Eb1, Fm1, Em1, Fs1, Ar1⟩ := BI.one p_BI_b
 refine zR X0 hx d0 rfl rfl 1 rfl ?_
 rcases id p_BI_a with ⟨m2, km2, Eb2, Fm2, Em2, (⟨Fs2, Ar2, hv2⟩ | ⟨w2, hn2, Ar2, (⟨Fs2, hv2⟩ | ⟨Fs2, hv2⟩)⟩ | ⟨w2, u2, hn2, Ar2, (⟨Fs2, hv2⟩ | ⟨Fs2, hv2⟩)⟩)⟩
 ·refine zP X0 hx hZ hown (tw hw 47 rfl) e0 Fs1 d1 4 rfl fun T3 X3 e3 => ?_
  refine zY X3 hx d4 ((if0 _ _).trans (feq (by decide : ¬ ((1 : Int32) = (0 : Int32)))).2) 12 (by decide) ?_
  refine zR X3 hx d12 rfl rfl 13 rfl ?_
  refine zP X3 hx hZ hown (tw hw 47 rfl) e3 Fs2 d13 16 rfl fun T4 X4 e4 => ?_
  refine zN X4 hx d16 ((if0 _ _).trans (teq (by decide : ((0 : Int32) = (0 : Int32)))).2) 19 rfl ?_
  refine zR X4 hx d19 rfl rfl 20 rfl ?_
  refine zCV X4 hx hZ hml hown (tw hw 112 rfl) (tw hw 113 rfl) (tw hw 13 rfl) (tw hw 116 rfl) (tw hw 115 rfl) (tw hw 114 rfl) (rmAbsB l Z a0 hw [] b h0 n0 Z0 Fs1) 0 (by decide) b [] rfl rfl (lenOf pd_10 rfl) rfl (Nat.le_of_eq rfl) e4 Eb1 d20 23 rfl fun T5 L5 v5 X5 ⟨Lc5, hQ5, l5⟩ => ?_
  obtain ⟨rfl, Nq5, eh5⟩ := hQ5
  have N5 := own_frApp N0 Nq5 l5
  refine zx [.ref b] rfl ?_
  exact own_finR X5 hx hlk hre rfl rfl d23 eh5 ⟨b, rfl, N5, (Keep.refl h0 []), p_BI_b⟩ (by decide) (by decide)
 ·refine zP X0 hx hZ hown (tw hw 47 rfl) e0 Fs1 d1 4 rfl fun T6 X6 e6 => ?_
  refine zY X6 hx d4 ((if0 _ _).trans (feq (by decide : ¬ ((1 : Int32) = (0 : Int32)))).2) 12 (by decide) ?_
  refine zR X6 hx d12 rfl rfl 13 rfl ?_
  refine zP X6 hx hZ hown (tw hw 47 rfl) e6 Fs2 d13 16 rfl fun T7 X7 e7 => ?_
  refine zY X7 hx d16 ((if0 _ _).trans (feq (by decide : ¬ ((1 : Int32) = (0 : Int32)))).2) 24 (by decide) ?_
  obtain ⟨T8, h8, X8, e8, E8, A8, D8, -, st8⟩ := newO X7 hx hZ hown (tw hw 127 rfl) (tw hw 128 rfl) (tw hw 129 rfl) e7 (g := (mkF m 24 #[rv a, rv b, .unset, .unset, .unset] [])) rfl d24 (by decide) (by decide)
  obtain ⟨b8, g8⟩ : ∃ z, z = h0.size := ⟨_, rfl⟩
  rw [← g8] at A8 D8 st8
  have X8 := own_reX X8 (rfl : _ = 1) (rfl : _ = 3)
  refine zt 27 [.ref b8] st8 ?_
  refine zD X8 hx d27 rfl 28 rfl ?_
  refine zR X8 hx d28 rfl rfl 29 rfl ?_
  have F9 := (Fm2.ext E8)
  have F10 := (Ar2.ext E8)
  have F11 := (Em2.ext E8)
  refine zCI X8 hx hZ hml rfl rfl hown (tw hw 182 rfl) (tw hw 183 rfl) (tw hw 129 rfl) (tw hw 184 rfl) (rmMiB1 l Z a0 hw [] b8 a m2 km2 w2 h8 n0 (Nat.le_trans Z0 E8.1) A8 (D8 (Or.inl (tw hw 138 rfl)) pf_1) (D8 (Or.inl (tw hw 140 rfl)) pf_0) (D8 (Or.inl (tw hw 136 rfl)) pf_0) (Nat.le_trans (Nat.le_trans Z0 (Nat.le_refl _)) (Nat.le_of_eq g8.symm)) F9 F10 F11 (Nat.ne_of_lt (Nat.lt_of_lt_of_le (BI.lt p_BI_a) (Nat.le_of_eq g8.symm))) (Nat.ne_of_lt (Nat.lt_of_lt_of_le Em2.lt (Nat.le_of_eq g8.symm)))) 1 (by decide) b8 [.ref b8] rfl rfl (lenOf pd_11 rfl) rfl (Nat.le_of_eq rfl) e8 d29 32 rfl fun T12 L12 v12 X12 ⟨Lc12, hQ12, l12⟩ => ?_
  have X12 := own_reX X12 (rfl : _ = 2) (rfl : _ = 4)
  obtain ⟨ca_12, rfl, Nq12, K12, f12_0, f12_1, f12_2, f12_3, f12_4, f12_5, f12_6⟩ := hQ12
  have N12 := own_frApp N0 Nq12 l12
  refine zx [.ref b8] rfl ?_
  have K13 : Keep h0 T12.heap [] := (((Keep.refl h0 []).ext E8).trans K12 (allS (Or.inr (Nat.le_trans (Nat.le_refl _) (Nat.le_of_eq g8.symm))) all0))
  refine zl 33 _ [] (fun t k => XS.astoreN X12.here hx rfl d32 rfl rfl (l' := #[rv a, rv b, rv b8, .unset, .unset]) rfl k) ?_
  obtain ⟨T14, h14, X14, e14, E14, A14, D14, -, st14⟩ := newO X12 hx hZ hown (tw hw 127 rfl) (tw hw 128 rfl) (tw hw 129 rfl) rfl (g := (mkF m 33 #[rv a, rv b, rv b8, .unset, .unset] [])) rfl d33 (by decide) (by decide)
  obtain ⟨b14, g14⟩ : ∃ z, z = T12.heap.size := ⟨_, rfl⟩
  rw [← g14] at A14 D14 st14
  have X14 := own_reX X14 (rfl : _ = 3) (rfl : _ = 7)
  refine zt 36 [.ref b14] st14 ?_
  refine zD X14 hx d36 rfl 37 rfl ?_
  refine zR X14 hx d37 rfl rfl 38 rfl ?_
  have F15 := ((Fm1.keep K13 nin0).ext E14)
  have F16 := ((Ar1.keep K13 nin0).ext E14)
  have F17 := ((Em1.keep K13).ext E14)
  refine zCI X14 hx hZ hml rfl rfl hown (tw hw 182 rfl) (tw hw 183 rfl) (tw hw 129 rfl) (tw hw 184 rfl) (rmMiB1 l Z a0 hw [] b14 b m1 km1 (1 : Int32) h14 n0 (Nat.le_trans Z0 (Nat.le_trans K13.1 E14.1)) A14 (D14 (Or.inl (tw hw 138 rfl)) pf_1) (D14 (Or.inl (tw hw 140 rfl)) pf_0) (D14 (Or.inl (tw hw 136 rfl)) pf_0) (Nat.le_trans (Nat.le_trans Z0 K13.1) (Nat.le_of_eq g14.symm)) F15 F16 F17 (Nat.ne_of_lt (Nat.lt_of_lt_of_le (Nat.lt_of_lt_of_le (BI.lt p_BI_b) K13.1) (Nat.le_of_eq g14.symm))) (Nat.ne_of_lt (Nat.lt_of_lt_of_le (Nat.lt_of_lt_of_le Em1.lt K13.1) (Nat.le_of_eq g14.symm)))) 1 (by decide) b14 [.ref b14] rfl rfl (lenOf pd_11 rfl) rfl (Nat.le_of_eq rfl) e14 d38 41 rfl fun T18 L18 v18 X18 ⟨Lc18, hQ18, l18⟩ => ?_
  have X18 := own_reX X18 (rfl : _ = 4) (rfl : _ = 8)
  obtain ⟨ca_18, rfl, Nq18, K18, f18_0, f18_1, f18_2, f18_3, f18_4, f18_5, f18_6⟩ := hQ18
  have N18 := own_frApp N12 Nq18 l18
  refine zx [.ref b14] rfl ?_
  have K19 : Keep T12.heap T18.heap [] := (((Keep.refl T12.heap []).ext E14).trans K18 (allS (Or.inr (Nat.le_trans (Nat.le_refl _) (Nat.le_of_eq g14.symm))) all0))
  refine zl 42 _ [] (fun t k => XS.astoreN X18.here hx rfl d41 rfl rfl (l' := #[rv a, rv b, rv b8, rv b14, .unset]) rfl k) ?_
  refine zR X18 hx d42 rfl rfl 43 rfl ?_
  refine zR X18 hx d43 rfl rfl 44 rfl ?_
  have F20 := (f12_0.keep K19)
  have F21 := (f12_1.keep K19 nin0)
  have F22 := (f12_2.keep K19 nin0)
  have F23 := (f12_3.keep K19 nin0)
  have F24 := (f12_4.keep K19 nin0)
  refine zCV X18 hx hZ hml hown (tw hw 199 rfl) (tw hw 200 rfl) (tw hw 129 rfl) (tw hw 203 rfl) (tw hw 202 rfl) (tw hw 201 rfl) (rmHG1 l Z a0 hw [] b8 ca_12 km2 b14 ca_18 km1 w2 T18.heap n0 (Nat.le_trans Z0 (Nat.le_trans K13.1 K19.1)) F20 F21 F22 F23 F24 f18_0 f18_1 f18_2 f18_3 f18_4 hn2 (Nat.le_trans (Nat.le_trans Z0 (Nat.le_refl _)) (Nat.le_of_eq g8.symm)) (Nat.le_trans (Nat.le_trans Z0 E8.1) f12_6) (Nat.le_trans (Nat.le_trans Z0 K13.1) (Nat.le_of_eq g14.symm)) (Ne.symm (Nat.ne_of_lt (Nat.lt_of_lt_of_le A8.lt f12_6))) (Ne.symm (Nat.ne_of_lt (Nat.lt_of_lt_of_le (Nat.lt_of_lt_of_le f12_4.lt E14.1) f18_6))) (Ne.symm (Nat.ne_of_lt (Nat.lt_of_lt_of_le f12_4.lt (Nat.le_of_eq g14.symm)))) (Ne.symm (Nat.ne_of_lt (Nat.lt_of_lt_of_le (Nat.lt_of_lt_of_le A8.lt (Nat.le_trans K12.1 E14.1)) f18_6))) (Ne.symm (Nat.ne_of_lt (Nat.lt_of_lt_of_le (Nat.lt_of_lt_of_le A8.lt K12.1) (Nat.le_of_eq g14.symm)))) (Ne.symm (Nat.ne_of_lt (Nat.lt_of_lt_of_le A14.lt f18_6)))) 0 (by decide) b8 [] rfl rfl (lenOf pd_6 rfl) rfl (Nat.le_of_eq rfl) rfl F20 d44 47 rfl fun T25 L25 v25 X25 ⟨Lc25, hQ25, l25⟩ => ?_
  have X25 := own_reX X25 (rfl : _ = 8) (rfl : _ = 16)
  obtain ⟨r_25, ra_25, kr_25, rfl, Nq25, K25, f25_0, f25_1, f25_2, f25_3, f25_4, f25_5, f25_6, f25_7⟩ := hQ25
  have N25 := own_frApp N18 Nq25 l25
  refine zx [.ref r_25] rfl ?_
  refine zl 49 _ [] (fun t k => XS.astore X25.here hx rfl d47 rfl rfl (l' := #[rv a, rv b, rv b8, rv b14, rv r_25]) rfl k) ?_
  refine zR2 X25 hx d49 rfl rfl 51 rfl ?_
  refine zK X25 hx d51 1 rfl 52 rfl ?_
  refine zCV X25 hx hZ hml hown (tw hw 149 rfl) (tw hw 150 rfl) (tw hw 129 rfl) (tw hw 153 rfl) (tw hw 152 rfl) (tw hw 151 rfl) (rmTb1 l Z a0 hw [] r_25 ra_25 kr_25 (1 : Int32) (1 : Int32) T25.heap n0 (Nat.le_trans Z0 (Nat.le_trans (Nat.le_trans K13.1 K19.1) K25.1)) f25_0 f25_1 f25_2 f25_3 f25_4 (by decide)) 0 (by decide) r_25 [] rfl rfl (lenOf pd_12 rfl) rfl (Nat.le_of_eq rfl) rfl f25_0 d52 55 rfl fun T26 L26 v26 X26 ⟨Lc26, hQ26, l26⟩ => ?_
  have X26 := own_reX X26 (rfl : _ = 9) (rfl : _ = 22)
  obtain ⟨r_26, rfl, Nq26, K26, f26_0, f26_1, f26_2, f26_3⟩ := hQ26
  have N26 := own_frApp N25 Nq26 l26
  refine zx [.ref r_26] rfl ?_
  have F28 := (f25_5.keep K26)
  have F29 := (f25_4.keep K26 nin0)
  have B27 : BI Z T26.heap r_26 (1 : Int) := ⟨ra_25, _, f26_1, f26_3, F28, Or.inr (Or.inl ⟨(1 : Int32), (by decide), F29, Or.inl ⟨f26_2, (by decide +kernel)⟩⟩)⟩
  exact own_finR X26 hx hlk hre rfl rfl d55 rfl ⟨r_26, rfl, N26, (((((Keep.refl h0 []).trans K13 all0).trans K19 all0).trans K25 (allS (Or.inr (Nat.le_trans (Nat.le_refl _) (Nat.le_of_eq g8.symm))) (allS (Or.inr (Nat.le_trans E8.1 f12_6)) (allS (Or.inr (Nat.le_trans K13.1 (Nat.le_of_eq g14.symm))) all0)))).trans K26 all0), B27⟩ (by decide) (by decide)
 ·refine zP X0 hx hZ hown (tw hw 47 rfl) e0 Fs1 d1 4 rfl fun T30 X30 e30 => ?_
  refine zY X30 hx d4 ((if0 _ _).trans (feq (by decide : ¬ ((1 : Int32) = (0 : Int32)))).2) 12 (by decide) ?_
  refine zR X30 hx d12 rfl rfl 13 rfl ?_
  refine zP X30 hx hZ hown (tw hw 47 rfl) e30 Fs2 d13 16 rfl fun T31 X31 e31 => ?_
  refine zY X31 hx d16 ((if0 _ _).trans (feq (by decide : ¬ ((-1 : Int32) = (0 : Int32)))).2) 24 (by decide) ?_
  obtain ⟨T32, h32, X32, e32, E32, A32, D32, -, st32⟩ := newO X31 hx hZ hown (tw hw 127 rfl) (tw hw 128 rfl) (tw hw 129 rfl) e31 (g := (mkF m 24 #[rv a, rv b, .unset, .unset, .unset] [])) rfl d24 (by decide) (by decide)
  obtain ⟨b32, g32⟩ : ∃ z, z = h0.size := ⟨_, rfl⟩
  rw [← g32] at A32 D32 st32
  have X32 := own_reX X32 (rfl : _ = 1) (rfl : _ = 3)
  refine zt 27 [.ref b32] st32 ?_
  refine zD X32 hx d27 rfl 28 rfl ?_
  refine zR X32 hx d28 rfl rfl 29 rfl ?_
  have F33 := (Fm2.ext E32)
  have F34 := (Ar2.ext E32)
  have F35 := (Em2.ext E32)
  refine zCI X32 hx hZ hml rfl rfl hown (tw hw 182 rfl) (tw hw 183 rfl) (tw hw 129 rfl) (tw hw 184 rfl) (rmMiB1 l Z a0 hw [] b32 a m2 km2 w2 h32 n0 (Nat.le_trans Z0 E32.1) A32 (D32 (Or.inl (tw hw 138 rfl)) pf_1) (D32 (Or.inl (tw hw 140 rfl)) pf_0) (D32 (Or.inl (tw hw 136 rfl)) pf_0) (Nat.le_trans (Nat.le_trans Z0 (Nat.le_refl _)) (Nat.le_of_eq g32.symm)) F33 F34 F35 (Nat.ne_of_lt (Nat.lt_of_lt_of_le (BI.lt p_BI_a) (Nat.le_of_eq g32.symm))) (Nat.ne_of_lt (Nat.lt_of_lt_of_le Em2.lt (Nat.le_of_eq g32.symm)))) 1 (by decide) b32 [.ref b32] rfl rfl (lenOf pd_11 rfl) rfl (Nat.le_of_eq rfl) e32 d29 32 rfl fun T36 L36 v36 X36 ⟨Lc36, hQ36, l36⟩ => ?_
  have X36 := own_reX X36 (rfl : _ = 2) (rfl : _ = 4)
  obtain ⟨ca_36, rfl, Nq36, K36, f36_0, f36_1, f36_2, f36_3, f36_4, f36_5, f36_6⟩ := hQ36
  have N36 := own_frApp N0 Nq36 l36
  refine zx [.ref b32] rfl ?_
  have K37 : Keep h0 T36.heap [] := (((Keep.refl h0 []).ext E32).trans K36 (allS (Or.inr (Nat.le_trans (Nat.le_refl _) (Nat.le_of_eq g32.symm))) all0))
  refine zl 33 _ [] (fun t k => XS.astoreN X36.here hx rfl d32 rfl rfl (l' := #[rv a, rv b, rv b32, .unset, .unset]) rfl k) ?_
  obtain ⟨T38, h38, X38, e38, E38, A38, D38, -, st38⟩ := newO X36 hx hZ hown (tw hw 127 rfl) (tw hw 128 rfl) (tw hw 129 rfl) rfl (g := (mkF m 33 #[rv a, rv b, rv b32, .unset, .unset] [])) rfl d33 (by decide) (by decide)
  obtain ⟨b38, g38⟩ : ∃ z, z = T36.heap.size := ⟨_, rfl⟩
  rw [← g38] at A38 D38 st38
  have X38 := own_reX X38 (rfl : _ = 3) (rfl : _ = 7)
  refine zt 36 [.ref b38] st38 ?_
  refine zD X38 hx d36 rfl 37 rfl ?_
  refine zR X38 hx d37 rfl rfl 38 rfl ?_
  have F39 := ((Fm1.keep K37 nin0).ext E38)
  have F40 := ((Ar1.keep K37 nin0).ext E38)
  have F41 := ((Em1.keep K37).ext E38)
  refine zCI X38 hx hZ hml rfl rfl hown (tw hw 182 rfl) (tw hw 183 rfl) (tw hw 129 rfl) (tw hw 184 rfl) (rmMiB1 l Z a0 hw [] b38 b m1 km1 (1 : Int32) h38 n0 (Nat.le_trans Z0 (Nat.le_trans K37.1 E38.1)) A38 (D38 (Or.inl (tw hw 138 rfl)) pf_1) (D38 (Or.inl (tw hw 140 rfl)) pf_0) (D38 (Or.inl (tw hw 136 rfl)) pf_0) (Nat.le_trans (Nat.le_trans Z0 K37.1) (Nat.le_of_eq g38.symm)) F39 F40 F41 (Nat.ne_of_lt (Nat.lt_of_lt_of_le (Nat.lt_of_lt_of_le (BI.lt p_BI_b) K37.1) (Nat.le_of_eq g38.symm))) (Nat.ne_of_lt (Nat.lt_of_lt_of_le (Nat.lt_of_lt_of_le Em1.lt K37.1) (Nat.le_of_eq g38.symm)))) 1 (by decide) b38 [.ref b38] rfl rfl (lenOf pd_11 rfl) rfl (Nat.le_of_eq rfl) e38 d38 41 rfl fun T42 L42 v42 X42 ⟨Lc42, hQ42, l42⟩ => ?_
  have X42 := own_reX X42 (rfl : _ = 4) (rfl : _ = 8)
  obtain ⟨ca_42, rfl, Nq42, K42, f42_0, f42_1, f42_2, f42_3, f42_4, f42_5, f42_6⟩ := hQ42
  have N42 := own_frApp N36 Nq42 l42
  refine zx [.ref b38] rfl ?_
  have K43 : Keep T36.heap T42.heap [] := (((Keep.refl T36.heap []).ext E38).trans K42 (allS (Or.inr (Nat.le_trans (Nat.le_refl _) (Nat.le_of_eq g38.symm))) all0))
  refine zl 42 _ [] (fun t k => XS.astoreN X42.here hx rfl d41 rfl rfl (l' := #[rv a, rv b, rv b32, rv b38, .unset]) rfl k) ?_
  refine zR X42 hx d42 rfl rfl 43 rfl ?_
  refine zR X42 hx d43 rfl rfl 44 rfl ?_
  have F44 := (f36_0.keep K43)
  have F45 := (f36_1.keep K43 nin0)
  have F46 := (f36_2.keep K43 nin0)
  have F47 := (f36_3.keep K43 nin0)
  have F48 := (f36_4.keep K43 nin0)
  refine zCV X42 hx hZ hml hown (tw hw 199 rfl) (tw hw 200 rfl) (tw hw 129 rfl) (tw hw 203 rfl) (tw hw 202 rfl) (tw hw 201 rfl) (rmHG1 l Z a0 hw [] b32 ca_36 km2 b38 ca_42 km1 w2 T42.heap n0 (Nat.le_trans Z0 (Nat.le_trans K37.1 K43.1)) F44 F45 F46 F47 F48 f42_0 f42_1 f42_2 f42_3 f42_4 hn2 (Nat.le_trans (Nat.le_trans Z0 (Nat.le_refl _)) (Nat.le_of_eq g32.symm)) (Nat.le_trans (Nat.le_trans Z0 E32.1) f36_6) (Nat.le_trans (Nat.le_trans Z0 K37.1) (Nat.le_of_eq g38.symm)) (Ne.symm (Nat.ne_of_lt (Nat.lt_of_lt_of_le A32.lt f36_6))) (Ne.symm (Nat.ne_of_lt (Nat.lt_of_lt_of_le (Nat.lt_of_lt_of_le f36_4.lt E38.1) f42_6))) (Ne.symm (Nat.ne_of_lt (Nat.lt_of_lt_of_le f36_4.lt (Nat.le_of_eq g38.symm)))) (Ne.symm (Nat.ne_of_lt (Nat.lt_of_lt_of_le (Nat.lt_of_lt_of_le A32.lt (Nat.le_trans K36.1 E38.1)) f42_6))) (Ne.symm (Nat.ne_of_lt (Nat.lt_of_lt_of_le (Nat.lt_of_lt_of_le A32.lt K36.1) (Nat.le_of_eq g38.symm)))) (Ne.symm (Nat.ne_of_lt (Nat.lt_of_lt_of_le A38.lt f42_6)))) 0 (by decide) b32 [] rfl rfl (lenOf pd_6 rfl) rfl (Nat.le_of_eq rfl) rfl F44 d44 47 rfl fun T49 L49 v49 X49 ⟨Lc49, hQ49, l49⟩ => ?_
  have X49 := own_reX X49 (rfl : _ = 8) (rfl : _ = 16)
  obtain ⟨r_49, ra_49, kr_49, rfl, Nq49, K49, f49_0, f49_1, f49_2, f49_3, f49_4, f49_5, f49_6, f49_7⟩ := hQ49
  have N49 := own_frApp N42 Nq49 l49
  refine zx [.ref r_49] rfl ?_
  refine zl 49 _ [] (fun t k => XS.astore X49.here hx rfl d47 rfl rfl (l' := #[rv a, rv b, rv b32, rv b38, rv r_49]) rfl k) ?_
  refine zR2 X49 hx d49 rfl rfl 51 rfl ?_
  refine zK X49 hx d51 1 rfl 52 rfl ?_
  refine zCV X49 hx hZ hml hown (tw hw 149 rfl) (tw hw 150 rfl) (tw hw 129 rfl) (tw hw 153 rfl) (tw hw 152 rfl) (tw hw 151 rfl) (rmTb1 l Z a0 hw [] r_49 ra_49 kr_49 (1 : Int32) (1 : Int32) T49.heap n0 (Nat.le_trans Z0 (Nat.le_trans (Nat.le_trans K37.1 K43.1) K49.1)) f49_0 f49_1 f49_2 f49_3 f49_4 (by decide)) 0 (by decide) r_49 [] rfl rfl (lenOf pd_12 rfl) rfl (Nat.le_of_eq rfl) rfl f49_0 d52 55 rfl fun T50 L50 v50 X50 ⟨Lc50, hQ50, l50⟩ => ?_
  have X50 := own_reX X50 (rfl : _ = 9) (rfl : _ = 22)
  obtain ⟨r_50, rfl, Nq50, K50, f50_0, f50_1, f50_2, f50_3⟩ := hQ50
  have N50 := own_frApp N49 Nq50 l50
  refine zx [.ref r_50] rfl ?_
  have F52 := (f49_5.keep K50)
  have F53 := (f49_4.keep K50 nin0)
  have B51 : BI Z T50.heap r_50 (1 : Int) := ⟨ra_49, _, f50_1, f50_3, F52, Or.inr (Or.inl ⟨(1 : Int32), (by decide), F53, Or.inl ⟨f50_2, (by decide +kernel)⟩⟩)⟩
  exact own_finR X50 hx hlk hre rfl rfl d55 rfl ⟨r_50, rfl, N50, (((((Keep.refl h0 []).trans K37 all0).trans K43 all0).trans K49 (allS (Or.inr (Nat.le_trans (Nat.le_refl _) (Nat.le_of_eq g32.symm))) (allS (Or.inr (Nat.le_trans E32.1 f36_6)) (allS (Or.inr (Nat.le_trans K37.1 (Nat.le_of_eq g38.symm))) all0)))).trans K50 all0), B51⟩ (by decide) (by decide)
 ·refine zP X0 hx hZ hown (tw hw 47 rfl) e0 Fs1 d1 4 rfl fun T54 X54 e54 => ?_
  refine zY X54 hx d4 ((if0 _ _).trans (feq (by decide : ¬ ((1 : Int32) = (0 : Int32)))).2) 12 (by decide) ?_
  refine zR X54 hx d12 rfl rfl 13 rfl ?_
  refine zP X54 hx hZ hown (tw hw 47 rfl) e54 Fs2 d13 16 rfl fun T55 X55 e55 => ?_
  refine zY X55 hx d16 ((if0 _ _).trans (feq (by decide : ¬ ((1 : Int32) = (0 : Int32)))).2) 24 (by decide) ?_
  obtain ⟨T56, h56, X56, e56, E56, A56, D56, -, st56⟩ := newO X55 hx hZ hown (tw hw 127 rfl) (tw hw 128 rfl) (tw hw 129 rfl) e55 (g := (mkF m 24 #[rv a, rv b, .unset, .unset, .unset] [])) rfl d24 (by decide) (by decide)
  obtain ⟨b56, g56⟩ : ∃ z, z = h0.size := ⟨_, rfl⟩
  rw [← g56] at A56 D56 st56
  have X56 := own_reX X56 (rfl : _ = 1) (rfl : _ = 3)
  refine zt 27 [.ref b56] st56 ?_
  refine zD X56 hx d27 rfl 28 rfl ?_
  refine zR X56 hx d28 rfl rfl 29 rfl ?_
  have F57 := (Fm2.ext E56)
  have F58 := (Ar2.ext E56)
  have F59 := (Em2.ext E56)
  refine zCI X56 hx hZ hml rfl rfl hown (tw hw 182 rfl) (tw hw 183 rfl) (tw hw 129 rfl) (tw hw 184 rfl) (rmMiB2 l Z a0 hw [] b56 a m2 km2 w2 u2 h56 n0 (Nat.le_trans Z0 E56.1) A56 (D56 (Or.inl (tw hw 138 rfl)) pf_1) (D56 (Or.inl (tw hw 140 rfl)) pf_0) (D56 (Or.inl (tw hw 136 rfl)) pf_0) (Nat.le_trans (Nat.le_trans Z0 (Nat.le_refl _)) (Nat.le_of_eq g56.symm)) F57 F58 F59 (Nat.ne_of_lt (Nat.lt_of_lt_of_le (BI.lt p_BI_a) (Nat.le_of_eq g56.symm))) (Nat.ne_of_lt (Nat.lt_of_lt_of_le Em2.lt (Nat.le_of_eq g56.symm)))) 1 (by decide) b56 [.ref b56] rfl rfl (lenOf pd_11 rfl) rfl (Nat.le_of_eq rfl) e56 d29 32 rfl fun T60 L60 v60 X60 ⟨Lc60, hQ60, l60⟩ => ?_
  have X60 := own_reX X60 (rfl : _ = 2) (rfl : _ = 5)
  obtain ⟨ca_60, rfl, Nq60, K60, f60_0, f60_1, f60_2, f60_3, f60_4, f60_5, f60_6⟩ := hQ60
  have N60 := own_frApp N0 Nq60 l60
  refine zx [.ref b56] rfl ?_
  have K61 : Keep h0 T60.heap [] := (((Keep.refl h0 []).ext E56).trans K60 (allS (Or.inr (Nat.le_trans (Nat.le_refl _) (Nat.le_of_eq g56.symm))) all0))
  refine zl 33 _ [] (fun t k => XS.astoreN X60.here hx rfl d32 rfl rfl (l' := #[rv a, rv b, rv b56, .unset, .unset]) rfl k) ?_
  obtain ⟨T62, h62, X62, e62, E62, A62, D62, -, st62⟩ := newO X60 hx hZ hown (tw hw 127 rfl) (tw hw 128 rfl) (tw hw 129 rfl) rfl (g := (mkF m 33 #[rv a, rv b, rv b56, .unset, .unset] [])) rfl d33 (by decide) (by decide)
  obtain ⟨b62, g62⟩ : ∃ z, z = T60.heap.size := ⟨_, rfl⟩
  rw [← g62] at A62 D62 st62
  have X62 := own_reX X62 (rfl : _ = 3) (rfl : _ = 8)
  refine zt 36 [.ref b62] st62 ?_
  refine zD X62 hx d36 rfl 37 rfl ?_
  refine zR X62 hx d37 rfl rfl 38 rfl ?_
  have F63 := ((Fm1.keep K61 nin0).ext E62)
  have F64 := ((Ar1.keep K61 nin0).ext E62)
  have F65 := ((Em1.keep K61).ext E62)
  refine zCI X62 hx hZ hml rfl rfl hown (tw hw 182 rfl) (tw hw 183 rfl) (tw hw 129 rfl) (tw hw 184 rfl) (rmMiB1 l Z a0 hw [] b62 b m1 km1 (1 : Int32) h62 n0 (Nat.le_trans Z0 (Nat.le_trans K61.1 E62.1)) A62 (D62 (Or.inl (tw hw 138 rfl)) pf_1) (D62 (Or.inl (tw hw 140 rfl)) pf_0) (D62 (Or.inl (tw hw 136 rfl)) pf_0) (Nat.le_trans (Nat.le_trans Z0 K61.1) (Nat.le_of_eq g62.symm)) F63 F64 F65 (Nat.ne_of_lt (Nat.lt_of_lt_of_le (Nat.lt_of_lt_of_le (BI.lt p_BI_b) K61.1) (Nat.le_of_eq g62.symm))) (Nat.ne_of_lt (Nat.lt_of_lt_of_le (Nat.lt_of_lt_of_le Em1.lt K61.1) (Nat.le_of_eq g62.symm)))) 1 (by decide) b62 [.ref b62] rfl rfl (lenOf pd_11 rfl) rfl (Nat.le_of_eq rfl) e62 d38 41 rfl fun T66 L66 v66 X66 ⟨Lc66, hQ66, l66⟩ => ?_
  have X66 := own_reX X66 (rfl : _ = 4) (rfl : _ = 9)
  obtain ⟨ca_66, rfl, Nq66, K66, f66_0, f66_1, f66_2, f66_3, f66_4, f66_5, f66_6⟩ := hQ66
  have N66 := own_frApp N60 Nq66 l66
  refine zx [.ref b62] rfl ?_
  have K67 : Keep T60.heap T66.heap [] := (((Keep.refl T60.heap []).ext E62).trans K66 (allS (Or.inr (Nat.le_trans (Nat.le_refl _) (Nat.le_of_eq g62.symm))) all0))
  refine zl 42 _ [] (fun t k => XS.astoreN X66.here hx rfl d41 rfl rfl (l' := #[rv a, rv b, rv b56, rv b62, .unset]) rfl k) ?_
  refine zR X66 hx d42 rfl rfl 43 rfl ?_
  refine zR X66 hx d43 rfl rfl 44 rfl ?_
  have F68 := (f60_0.keep K67)
  have F69 := (f60_1.keep K67 nin0)
  have F70 := (f60_2.keep K67 nin0)
  have F71 := (f60_3.keep K67 nin0)
  have F72 := (f60_4.keep K67 nin0)
  refine zCV X66 hx hZ hml hown (tw hw 199 rfl) (tw hw 200 rfl) (tw hw 129 rfl) (tw hw 203 rfl) (tw hw 202 rfl) (tw hw 201 rfl) (rmHG2 l Z a0 hw [] b56 ca_60 km2 b62 ca_66 km1 w2 u2 T66.heap n0 (Nat.le_trans Z0 (Nat.le_trans K61.1 K67.1)) F68 F69 F70 F71 F72 f66_0 f66_1 f66_2 f66_3 f66_4 hn2 (Nat.le_trans (Nat.le_trans Z0 (Nat.le_refl _)) (Nat.le_of_eq g56.symm)) (Nat.le_trans (Nat.le_trans Z0 E56.1) f60_6) (Nat.le_trans (Nat.le_trans Z0 K61.1) (Nat.le_of_eq g62.symm)) (Ne.symm (Nat.ne_of_lt (Nat.lt_of_lt_of_le A56.lt f60_6))) (Ne.symm (Nat.ne_of_lt (Nat.lt_of_lt_of_le (Nat.lt_of_lt_of_le f60_4.lt E62.1) f66_6))) (Ne.symm (Nat.ne_of_lt (Nat.lt_of_lt_of_le f60_4.lt (Nat.le_of_eq g62.symm)))) (Ne.symm (Nat.ne_of_lt (Nat.lt_of_lt_of_le (Nat.lt_of_lt_of_le A56.lt (Nat.le_trans K60.1 E62.1)) f66_6))) (Ne.symm (Nat.ne_of_lt (Nat.lt_of_lt_of_le (Nat.lt_of_lt_of_le A56.lt K60.1) (Nat.le_of_eq g62.symm)))) (Ne.symm (Nat.ne_of_lt (Nat.lt_of_lt_of_le A62.lt f66_6)))) 0 (by decide) b56 [] rfl rfl (lenOf pd_6 rfl) rfl (Nat.le_of_eq rfl) rfl F68 d44 47 rfl fun T73 L73 v73 X73 ⟨Lc73, hQ73, l73⟩ => ?_
  have X73 := own_reX X73 (rfl : _ = 8) (rfl : _ = 17)
  obtain ⟨r_73, ra_73, kr_73, rfl, Nq73, K73, f73_0, f73_1, f73_2, f73_3, f73_4, f73_5, f73_6, f73_7⟩ := hQ73
  have N73 := own_frApp N66 Nq73 l73
  refine zx [.ref r_73] rfl ?_
  refine zl 49 _ [] (fun t k => XS.astore X73.here hx rfl d47 rfl rfl (l' := #[rv a, rv b, rv b56, rv b62, rv r_73]) rfl k) ?_
  refine zR2 X73 hx d49 rfl rfl 51 rfl ?_
  refine zK X73 hx d51 1 rfl 52 rfl ?_
  refine zCV X73 hx hZ hml hown (tw hw 149 rfl) (tw hw 150 rfl) (tw hw 129 rfl) (tw hw 153 rfl) (tw hw 152 rfl) (tw hw 151 rfl) (rmTb1 l Z a0 hw [] r_73 ra_73 kr_73 (1 : Int32) (1 : Int32) T73.heap n0 (Nat.le_trans Z0 (Nat.le_trans (Nat.le_trans K61.1 K67.1) K73.1)) f73_0 f73_1 f73_2 f73_3 f73_4 (by decide)) 0 (by decide) r_73 [] rfl rfl (lenOf pd_12 rfl) rfl (Nat.le_of_eq rfl) rfl f73_0 d52 55 rfl fun T74 L74 v74 X74 ⟨Lc74, hQ74, l74⟩ => ?_
  have X74 := own_reX X74 (rfl : _ = 9) (rfl : _ = 23)
  obtain ⟨r_74, rfl, Nq74, K74, f74_0, f74_1, f74_2, f74_3⟩ := hQ74
  have N74 := own_frApp N73 Nq74 l74
  refine zx [.ref r_74] rfl ?_
  have F76 := (f73_5.keep K74)
  have F77 := (f73_4.keep K74 nin0)
  have B75 : BI Z T74.heap r_74 (1 : Int) := ⟨ra_73, _, f74_1, f74_3, F76, Or.inr (Or.inl ⟨(1 : Int32), (by decide), F77, Or.inl ⟨f74_2, (by decide +kernel)⟩⟩)⟩
  exact own_finR X74 hx hlk hre rfl rfl d55 rfl ⟨r_74, rfl, N74, (((((Keep.refl h0 []).trans K61 all0).trans K67 all0).trans K73 (allS (Or.inr (Nat.le_trans (Nat.le_refl _) (Nat.le_of_eq g56.symm))) (allS (Or.inr (Nat.le_trans E56.1 f60_6)) (allS (Or.inr (Nat.le_trans K61.1 (Nat.le_of_eq g62.symm))) all0)))).trans K74 all0), B75⟩ (by decide) (by decide)
 ·refine zP X0 hx hZ hown (tw hw 47 rfl) e0 Fs1 d1 4 rfl fun T78 X78 e78 => ?_
  refine zY X78 hx d4 ((if0 _ _).trans (feq (by decide : ¬ ((1 : Int32) = (0 : Int32)))).2) 12 (by decide) ?_
  refine zR X78 hx d12 rfl rfl 13 rfl ?_
  refine zP X78 hx hZ hown (tw hw 47 rfl) e78 Fs2 d13 16 rfl fun T79 X79 e79 => ?_
  refine zY X79 hx d16 ((if0 _ _).trans (feq (by decide : ¬ ((-1 : Int32) = (0 : Int32)))).2) 24 (by decide) ?_
  obtain ⟨T80, h80, X80, e80, E80, A80, D80, -, st80⟩ := newO X79 hx hZ hown (tw hw 127 rfl) (tw hw 128 rfl) (tw hw 129 rfl) e79 (g := (mkF m 24 #[rv a, rv b, .unset, .unset, .unset] [])) rfl d24 (by decide) (by decide)
  obtain ⟨b80, g80⟩ : ∃ z, z = h0.size := ⟨_, rfl⟩
  rw [← g80] at A80 D80 st80
  have X80 := own_reX X80 (rfl : _ = 1) (rfl : _ = 3)
  refine zt 27 [.ref b80] st80 ?_
  refine zD X80 hx d27 rfl 28 rfl ?_
  refine zR X80 hx d28 rfl rfl 29 rfl ?_
  have F81 := (Fm2.ext E80)
  have F82 := (Ar2.ext E80)
  have F83 := (Em2.ext E80)
  refine zCI X80 hx hZ hml rfl rfl hown (tw hw 182 rfl) (tw hw 183 rfl) (tw hw 129 rfl) (tw hw 184 rfl) (rmMiB2 l Z a0 hw [] b80 a m2 km2 w2 u2 h80 n0 (Nat.le_trans Z0 E80.1) A80 (D80 (Or.inl (tw hw 138 rfl)) pf_1) (D80 (Or.inl (tw hw 140 rfl)) pf_0) (D80 (Or.inl (tw hw 136 rfl)) pf_0) (Nat.le_trans (Nat.le_trans Z0 (Nat.le_refl _)) (Nat.le_of_eq g80.symm)) F81 F82 F83 (Nat.ne_of_lt (Nat.lt_of_lt_of_le (BI.lt p_BI_a) (Nat.le_of_eq g80.symm))) (Nat.ne_of_lt (Nat.lt_of_lt_of_le Em2.lt (Nat.le_of_eq g80.symm)))) 1 (by decide) b80 [.ref b80] rfl rfl (lenOf pd_11 rfl) rfl (Nat.le_of_eq rfl) e80 d29 32 rfl fun T84 L84 v84 X84 ⟨Lc84, hQ84, l84⟩ => ?_
  have X84 := own_reX X84 (rfl : _ = 2) (rfl : _ = 5)
  obtain ⟨ca_84, rfl, Nq84, K84, f84_0, f84_1, f84_2, f84_3, f84_4, f84_5, f84_6⟩ := hQ84
  have N84 := own_frApp N0 Nq84 l84
  refine zx [.ref b80] rfl ?_
  have K85 : Keep h0 T84.heap [] := (((Keep.refl h0 []).ext E80).trans K84 (allS (Or.inr (Nat.le_trans (Nat.le_refl _) (Nat.le_of_eq g80.symm))) all0))
  refine zl 33 _ [] (fun t k => XS.astoreN X84.here hx rfl d32 rfl rfl (l' := #[rv a, rv b, rv b80, .unset, .unset]) rfl k) ?_
  obtain ⟨T86, h86, X86, e86, E86, A86, D86, -, st86⟩ := newO X84 hx hZ hown (tw hw 127 rfl) (tw hw 128 rfl) (tw hw 129 rfl) rfl (g := (mkF m 33 #[rv a, rv b, rv b80, .unset, .unset] [])) rfl d33 (by decide) (by decide)
  obtain ⟨b86, g86⟩ : ∃ z, z = T84.heap.size := ⟨_, rfl⟩
  rw [← g86] at A86 D86 st86
  have X86 := own_reX X86 (rfl : _ = 3) (rfl : _ = 8)
  refine zt 36 [.ref b86] st86 ?_
  refine zD X86 hx d36 rfl 37 rfl ?_
  refine zR X86 hx d37 rfl rfl 38 rfl ?_
  have F87 := ((Fm1.keep K85 nin0).ext E86)
  have F88 := ((Ar1.keep K85 nin0).ext E86)
  have F89 := ((Em1.keep K85).ext E86)
  refine zCI X86 hx hZ hml rfl rfl hown (tw hw 182 rfl) (tw hw 183 rfl) (tw hw 129 rfl) (tw hw 184 rfl) (rmMiB1 l Z a0 hw [] b86 b m1 km1 (1 : Int32) h86 n0 (Nat.le_trans Z0 (Nat.le_trans K85.1 E86.1)) A86 (D86 (Or.inl (tw hw 138 rfl)) pf_1) (D86 (Or.inl (tw hw 140 rfl)) pf_0) (D86 (Or.inl (tw hw 136 rfl)) pf_0) (Nat.le_trans (Nat.le_trans Z0 K85.1) (Nat.le_of_eq g86.symm)) F87 F88 F89 (Nat.ne_of_lt (Nat.lt_of_lt_of_le (Nat.lt_of_lt_of_le (BI.lt p_BI_b) K85.1) (Nat.le_of_eq g86.symm))) (Nat.ne_of_lt (Nat.lt_of_lt_of_le (Nat.lt_of_lt_of_le Em1.lt K85.1) (Nat.le_of_eq g86.symm)))) 1 (by decide) b86 [.ref b86] rfl rfl (lenOf pd_11 rfl) rfl (Nat.le_of_eq rfl) e86 d38 41 rfl fun T90 L90 v90 X90 ⟨Lc90, hQ90, l90⟩ => ?_
  have X90 := own_reX X90 (rfl : _ = 4) (rfl : _ = 9)
  obtain ⟨ca_90, rfl, Nq90, K90, f90_0, f90_1, f90_2, f90_3, f90_4, f90_5, f90_6⟩ := hQ90
  have N90 := own_frApp N84 Nq90 l90
  refine zx [.ref b86] rfl ?_
  have K91 : Keep T84.heap T90.heap [] := (((Keep.refl T84.heap []).ext E86).trans K90 (allS (Or.inr (Nat.le_trans (Nat.le_refl _) (Nat.le_of_eq g86.symm))) all0))
  refine zl 42 _ [] (fun t k => XS.astoreN X90.here hx rfl d41 rfl rfl (l' := #[rv a, rv b, rv b80, rv b86, .unset]) rfl k) ?_
  refine zR X90 hx d42 rfl rfl 43 rfl ?_
  refine zR X90 hx d43 rfl rfl 44 rfl ?_
  have F92 := (f84_0.keep K91)
  have F93 := (f84_1.keep K91 nin0)
  have F94 := (f84_2.keep K91 nin0)
  have F95 := (f84_3.keep K91 nin0)
  have F96 := (f84_4.keep K91 nin0)
  refine zCV X90 hx hZ hml hown (tw hw 199 rfl) (tw hw 200 rfl) (tw hw 129 rfl) (tw hw 203 rfl) (tw hw 202 rfl) (tw hw 201 rfl) (rmHG2 l Z a0 hw [] b80 ca_84 km2 b86 ca_90 km1 w2 u2 T90.heap n0 (Nat.le_trans Z0 (Nat.le_trans K85.1 K91.1)) F92 F93 F94 F95 F96 f90_0 f90_1 f90_2 f90_3 f90_4 hn2 (Nat.le_trans (Nat.le_trans Z0 (Nat.le_refl _)) (Nat.le_of_eq g80.symm)) (Nat.le_trans (Nat.le_trans Z0 E80.1) f84_6) (Nat.le_trans (Nat.le_trans Z0 K85.1) (Nat.le_of_eq g86.symm)) (Ne.symm (Nat.ne_of_lt (Nat.lt_of_lt_of_le A80.lt f84_6))) (Ne.symm (Nat.ne_of_lt (Nat.lt_of_lt_of_le (Nat.lt_of_lt_of_le f84_4.lt E86.1) f90_6))) (Ne.symm (Nat.ne_of_lt (Nat.lt_of_lt_of_le f84_4.lt (Nat.le_of_eq g86.symm)))) (Ne.symm (Nat.ne_of_lt (Nat.lt_of_lt_of_le (Nat.lt_of_lt_of_le A80.lt (Nat.le_trans K84.1 E86.1)) f90_6))) (Ne.symm (Nat.ne_of_lt (Nat.lt_of_lt_of_le (Nat.lt_of_lt_of_le A80.lt K84.1) (Nat.le_of_eq g86.symm)))) (Ne.symm (Nat.ne_of_lt (Nat.lt_of_lt_of_le A86.lt f90_6)))) 0 (by decide) b80 [] rfl rfl (lenOf pd_6 rfl) rfl (Nat.le_of_eq rfl) rfl F92 d44 47 rfl fun T97 L97 v97 X97 ⟨Lc97, hQ97, l97⟩ => ?_
  have X97 := own_reX X97 (rfl : _ = 8) (rfl : _ = 17)
  obtain ⟨r_97, ra_97, kr_97, rfl, Nq97, K97, f97_0, f97_1, f97_2, f97_3, f97_4, f97_5, f97_6, f97_7⟩ := hQ97
  have N97 := own_frApp N90 Nq97 l97
  refine zx [.ref r_97] rfl ?_
  refine zl 49 _ [] (fun t k => XS.astore X97.here hx rfl d47 rfl rfl (l' := #[rv a, rv b, rv b80, rv b86, rv r_97]) rfl k) ?_
  refine zR2 X97 hx d49 rfl rfl 51 rfl ?_
  refine zK X97 hx d51 1 rfl 52 rfl ?_
  refine zCV X97 hx hZ hml hown (tw hw 149 rfl) (tw hw 150 rfl) (tw hw 129 rfl) (tw hw 153 rfl) (tw hw 152 rfl) (tw hw 151 rfl) (rmTb1 l Z a0 hw [] r_97 ra_97 kr_97 (1 : Int32) (1 : Int32) T97.heap n0 (Nat.le_trans Z0 (Nat.le_trans (Nat.le_trans K85.1 K91.1) K97.1)) f97_0 f97_1 f97_2 f97_3 f97_4 (by decide)) 0 (by decide) r_97 [] rfl rfl (lenOf pd_12 rfl) rfl (Nat.le_of_eq rfl) rfl f97_0 d52 55 rfl fun T98 L98 v98 X98 ⟨Lc98, hQ98, l98⟩ => ?_
  have X98 := own_reX X98 (rfl : _ = 9) (rfl : _ = 23)
  obtain ⟨r_98, rfl, Nq98, K98, f98_0, f98_1, f98_2, f98_3⟩ := hQ98
  have N98 := own_frApp N97 Nq98 l98
  refine zx [.ref r_98] rfl ?_
  have F100 := (f97_5.keep K98)
  have F101 := (f97_4.keep K98 nin0)
  have B99 : BI Z T98.heap r_98 (1 : Int) := ⟨ra_97, _, f98_1, f98_3, F100, Or.inr (Or.inl ⟨(1 : Int32), (by decide), F101, Or.inl ⟨f98_2, (by decide +kernel)⟩⟩)⟩
  exact own_finR X98 hx hlk hre rfl rfl d55 rfl ⟨r_98, rfl, N98, (((((Keep.refl h0 []).trans K85 all0).trans K91 all0).trans K97 (allS (Or.inr (Nat.le_trans (Nat.le_refl _) (Nat.le_of_eq g80.symm))) (allS (Or.inr (Nat.le_trans E80.1 f84_6)) (allS (Or.inr (Nat.le_trans K85.1 (Nat.le_of_eq g86.symm))) all0)))).trans K98 all0), B99⟩ (by decide) (by decide)
def QrmMiA0 (Z : State) (u : Addr) (ma : Addr) (k : ClassId) (h0 : Heap) (n0 : Nat) (v : Option Value) (h : Heap) (L : List Loc) : Prop := v = none ∧ Fr n0 L ∧ Keep h0 h [u] ∧ (Exa Z h u "java/math/MutableBigInteger") ∧ (Fld Z h u "java/math/MutableBigInteger" "value" "[I" (.ref ma)) ∧ (Fld Z h u "java/math/MutableBigInteger" "intLen" "I" (.int (0 : Int32))) ∧ (Fld Z h u "java/math/MutableBigInteger" "offset" "I" (.int (0 : Int32)))
abbrev RrmMiA0 : Room := { frames := 1, cells := 0, slots := 0, locals := 12 }
theorem rmMiA0 (l : Launch) (Z : State) (a0 : Array Value) (hw : ∀ d ∈ tables_1, d.before a0 Z = true) (ws : List Jvm.Cond) (u : Addr) (ma : Addr) (k : ClassId) (h0 : Heap) (n0 : Nat) (Z0 : n0 ≤ h0.size)  (p_Exa_u : Exa Z h0 u "java/math/MutableBigInteger") (p_Fld_u_value : Fld Z h0 u "java/math/MutableBigInteger" "value" "[I" .null) (p_Fld_u_intLen : Fld Z h0 u "java/math/MutableBigInteger" "intLen" "I" (.int (0 : Int32))) (p_Fld_u_offset : Fld Z h0 u "java/math/MutableBigInteger" "offset" "I" (.int (0 : Int32))) (ge1 : n0 ≤ u) (p_Arv_ma : Arv Z h0 ma k .int (0 : Int32) [] (.int (0 : Int32))) (ne2 : ma ≠ u) : Mf l Z Nm18 jdk_2101_method_3_code 2 (Option.none : Option Jvm.ClassFile.FieldType) ws RrmMiA0 #[(.ref u), (.ref ma)] h0 (QrmMiA0 Z u ma k h0 n0) := by
 refine own_entry (plainFor_of_name pn_java_math_MutableBigInteger) #[rv u, rv ma] (fun _ => rfl) fun p e s m below meth c s₁ hx hby hml hown hnm hlk hre hZ X0 e0 => ?_
 have N0 := Fr.nil n0
 obtain ⟨d0, d1, d4, d5, d6, d9, d10, d11, d14, d15, d16, d17, d20, -⟩ := D_18 hby
 refine zR X0 hx d0 rfl rfl 1 rfl ?_
 obtain ⟨T1, X1, e1, st1⟩ := initO X0 hx hZ hown (tw hw 134 rfl) (tw hw 21 rfl) (tw hw 22 rfl) e0 (g := (mkF m 1 #[rv u, rv ma] [.ref u])) rfl (by rw [hml]; rfl) rfl d1 (by decide) (W := 0) (by show 2 * 0 + _ ≤ _; exact Nat.le_of_eq rfl) (by decide)
 refine zt 4 [] st1 ?_
 refine zR X1 hx d4 rfl rfl 5 rfl ?_
 refine zK X1 hx d5 0 rfl 6 rfl ?_
 obtain ⟨T2, h2, X2, e2, W2, st2⟩ := putF X1 hx hZ hown (host := "") (Or.inl (tw hw 135 rfl)) Via.refl e1 p_Fld_u_offset p_Exa_u (Or.inl (tw hw 136 rfl)) (tw hw 128 rfl) pf_0 rfl rfl (g := (mkF m 6 #[rv u, rv ma] [.int 0, .ref u])) rfl rfl d6
 have N2 := Fr.snoc X2 N0 ge1
 have Fw2 : Fld Z h2 u "java/math/MutableBigInteger" "offset" "I" (.int (0 : Int32)) := p_Fld_u_offset.same W2
 refine zt 9 [] st2 ?_
 refine zR X2 hx d9 rfl rfl 10 rfl ?_
 refine zR X2 hx d10 rfl rfl 11 rfl ?_
 have F3 := (p_Exa_u.wr W2)
 have F4 := (p_Fld_u_value.other W2 (Or.inr (sn_java_math_MutableBigInteger_value__offset hw)))
 obtain ⟨T5, h5, X5, e5, W5, st5⟩ := putF X2 hx hZ hown (host := "") (Or.inl (tw hw 137 rfl)) Via.refl e2 F4 F3 (Or.inl (tw hw 138 rfl)) (tw hw 128 rfl) pf_1 rfl rfl (g := (mkF m 11 #[rv u, rv ma] [.ref ma, .ref u])) rfl rfl d11
 have N5 := Fr.snoc X5 N2 ge1
 have Fw5 : Fld Z h5 u "java/math/MutableBigInteger" "value" "[I" (.ref ma) := F4.same W5
 refine zt 14 [] st5 ?_
 refine zR X5 hx d14 rfl rfl 15 rfl ?_
 refine zR X5 hx d15 rfl rfl 16 rfl ?_
 have F6 := ((p_Arv_ma.other W2 ne2).other W5 ne2)
 refine zLn X5 hx hZ e5 F6 d16 17 rfl ?_
 have F8 := (F3.wr W5)
 have F9 := ((p_Fld_u_intLen.other W2 (Or.inr (sn_java_math_MutableBigInteger_intLen__offset hw))).other W5 (Or.inr (sn_java_math_MutableBigInteger_intLen__value hw)))
 obtain ⟨T10, h10, X10, e10, W10, st10⟩ := putF X5 hx hZ hown (host := "") (Or.inl (tw hw 139 rfl)) Via.refl e5 F9 F8 (Or.inl (tw hw 140 rfl)) (tw hw 128 rfl) pf_0 rfl rfl (g := (mkF m 17 #[rv u, rv ma] [.int 0, .ref u])) rfl rfl d17
 have N10 := Fr.snoc X10 N5 ge1
 have Fw10 : Fld Z h10 u "java/math/MutableBigInteger" "intLen" "I" (.int (0 : Int32)) := F9.same W10
 refine zt 20 [] st10 ?_
 have F11 := (F8.wr W10)
 have F12 := (Fw5.other W10 (Or.inr (sn_java_math_MutableBigInteger_value__intLen hw)))
 have F13 := ((Fw2.other W5 (Or.inr (sn_java_math_MutableBigInteger_offset__value hw))).other W10 (Or.inr (sn_java_math_MutableBigInteger_offset__intLen hw)))
 exact own_finV X10 hx hlk hre d20 e10 (K := _) ⟨rfl, N10, ((((Keep.refl h0 [u]).wr W2 (Or.inl (List.mem_of_getElem? (i := 0) rfl))).wr W5 (Or.inl (List.mem_of_getElem? (i := 0) rfl))).wr W10 (Or.inl (List.mem_of_getElem? (i := 0) rfl))), F11, F12, Fw10, F13⟩ (by decide) (by decide)
def QrmCmp11a (Z : State) (u : Addr) (ua : Addr) (k : ClassId) (q : Addr) (qa : Addr) (kq : ClassId) (h0 : Heap) (n0 : Nat) (v : Option Value) (h : Heap) (L : List Loc) : Prop := v = some (.int (0 : Int32)) ∧ Fr n0 L ∧ h = h0
abbrev RrmCmp11a : Room := { frames := 0, cells := 0, slots := 0, locals := 0 }
theorem rmCmp11a (l : Launch) (Z : State) (a0 : Array Value) (hw : ∀ d ∈ tables_1, d.before a0 Z = true) (ws : List Jvm.Cond) (u : Addr) (ua : Addr) (k : ClassId) (q : Addr) (qa : Addr) (kq : ClassId) (h0 : Heap) (n0 : Nat) (Z0 : n0 ≤ h0.size)  (p_Exa_u : Exa Z h0 u "java/math/MutableBigInteger") (p_Fld_u_value : Fld Z h0 u "java/math/MutableBigInteger" "value" "[I" (.ref ua)) (p_Fld_u_intLen : Fld Z h0 u "java/math/MutableBigInteger" "intLen" "I" (.int (1 : Int32))) (p_Fld_u_offset : Fld Z h0 u "java/math/MutableBigInteger" "offset" "I" (.int (0 : Int32))) (p_Arv_ua : Arv Z h0 ua k .int (1 : Int32) [(.int (1 : Int32))] (.int (0 : Int32))) (p_Exa_q : Exa Z h0 q "java/math/MutableBigInteger") (p_Fld_q_value : Fld Z h0 q "java/math/MutableBigInteger" "value" "[I" (.ref qa)) (p_Fld_q_intLen : Fld Z h0 q "java/math/MutableBigInteger" "intLen" "I" (.int (1 : Int32))) (p_Fld_q_offset : Fld Z h0 q "java/math/MutableBigInteger" "offset" "I" (.int (0 : Int32))) (p_Arv_qa : Arv Z h0 qa kq .int (1 : Int32) [(.int (1 : Int32))] (.int (0 : Int32))) : Mf l Z Nm7 jdk_2101_method_15_code 8 (Option.some Jvm.ClassFile.FieldType.int) ws RrmCmp11a #[(.ref u), (.ref q)] h0 (QrmCmp11a Z u ua k q qa kq h0 n0) := by
 refine own_entry (plainFor_of_name pn_java_math_MutableBigInteger) #[rv u, rv q, .unset, .unset, .unset, .unset, .unset, .unset] (fun _ => rfl) fun p e s m below meth c s₁ hx hby hml hown hnm hlk hre hZ X0 e0 => ?_
 have N0 := Fr.nil n0
 obtain ⟨d0, d1, d4, d5, d6, d9, d10, d15, d16, d19, d20, -, -, d25, d26, d29, d30, d31, d34, d36, d37, d40, d42, d44, d45, d48, d49, d52, d53, d56, d57, d60, d62, d63, d65, d66, d68, d69, d71, d72, d74, d75, d77, d79, d81, d86, d88, d90, -, -, d95, d98, d101, d104, d105, -⟩ := D_7 hby
 refine zR X0 hx d0 rfl rfl 1 rfl ?_
 refine zP X0 hx hZ hown (tw hw 139 rfl) e0 p_Fld_q_intLen d1 4 rfl fun T1 X1 e1 => ?_
 refine zl 5 _ [] (fun t k => XS.istoreN X1.here hx rfl d4 rfl (l' := #[rv u, rv q, iv 1, .unset, .unset, .unset, .unset, .unset]) rfl k) ?_
 refine zR X1 hx d5 rfl rfl 6 rfl ?_
 refine zP X1 hx hZ hown (tw hw 139 rfl) e1 p_Fld_u_intLen d6 9 rfl fun T2 X2 e2 => ?_
 refine zI X2 hx d9 rfl 10 rfl ?_
 refine zCY X2 hx d10 (flt (by decide : ¬ ((1 : Int32) < (1 : Int32)))).2.1 15 (by decide) ?_
 refine zR X2 hx d15 rfl rfl 16 rfl ?_
 refine zP X2 hx hZ hown (tw hw 139 rfl) e2 p_Fld_u_intLen d16 19 rfl fun T3 X3 e3 => ?_
 refine zI X3 hx d19 rfl 20 rfl ?_
 refine zCY X3 hx d20 (flt (by decide : ¬ ((1 : Int32) < (1 : Int32)))).2.2.2 25 (by decide) ?_
 refine zR X3 hx d25 rfl rfl 26 rfl ?_
 refine zP X3 hx hZ hown (tw hw 137 rfl) e3 p_Fld_q_value d26 29 rfl fun T4 X4 e4 => ?_
 refine zl 30 _ [] (fun t k => XS.astoreN X4.here hx rfl d29 rfl rfl (l' := #[rv u, rv q, iv 1, rv qa, .unset, .unset, .unset, .unset]) rfl k) ?_
 refine zR X4 hx d30 rfl rfl 31 rfl ?_
 refine zP X4 hx hZ hown (tw hw 135 rfl) e4 p_Fld_u_offset d31 34 rfl fun T5 X5 e5 => ?_
 refine zl 36 _ [] (fun t k => XS.istore X5.here hx rfl d34 rfl (l' := #[rv u, rv q, iv 1, rv qa, iv 0, .unset, .unset, .unset]) rfl k) ?_
 refine zR X5 hx d36 rfl rfl 37 rfl ?_
 refine zP X5 hx hZ hown (tw hw 135 rfl) e5 p_Fld_q_offset d37 40 rfl fun T6 X6 e6 => ?_
 refine zl 42 _ [] (fun t k => XS.istore X6.here hx rfl d40 rfl (l' := #[rv u, rv q, iv 1, rv qa, iv 0, iv 0, .unset, .unset]) rfl k) ?_
 refine zI2 X6 hx d42 rfl 44 rfl ?_
 refine zR X6 hx d44 rfl rfl 45 rfl ?_
 refine zP X6 hx hZ hown (tw hw 139 rfl) e6 p_Fld_u_intLen d45 48 rfl fun T7 X7 e7 => ?_
 refine zR X7 hx d48 rfl rfl 49 rfl ?_
 refine zP X7 hx hZ hown (tw hw 135 rfl) e7 p_Fld_u_offset d49 52 rfl fun T8 X8 e8 => ?_
 refine zq 53 [.int 1, .int 0] (fun t k => XS.iadd X8.here hx rfl d52 rfl k) ?_
 refine zCN X8 hx d53 (tlt (by decide : ((0 : Int32) < (1 : Int32)))).2.1 56 rfl ?_
 refine zR X8 hx d56 rfl rfl 57 rfl ?_
 refine zP X8 hx hZ hown (tw hw 137 rfl) e8 p_Fld_u_value d57 60 rfl fun T9 X9 e9 => ?_
 refine zI2 X9 hx d60 rfl 62 rfl ?_
 refine zIa X9 hx hZ e9 p_Arv_ua (by decide) rfl d62 63 rfl ?_
 refine zq 65 [.int (-2147483648), .int 1] (fun t k => X9.ldcInt hx hown (mvT hZ (tw hw 160 rfl)) (g := (mkF m 63 #[rv u, rv q, iv 1, rv qa, iv 0, iv 0, .unset, .unset] [.int 1])) rfl d63 _ k) ?_
 refine zq 66 [.int ((1 : Int32) + (-2147483648 : Int32))] (fun t k => XS.iadd X9.here hx rfl d65 rfl k) ?_
 have rw11 : ((1 : Int32) + (-2147483648 : Int32)) = (-2147483647 : Int32) := (by decide)
 rw [rw11]
 refine zl 68 _ [] (fun t k => XS.istore X9.here hx rfl d66 rfl (l' := #[rv u, rv q, iv 1, rv qa, iv 0, iv 0, iv (-2147483647), .unset]) rfl k) ?_
 refine zR X9 hx d68 rfl rfl 69 rfl ?_
 refine zI2 X9 hx d69 rfl 71 rfl ?_
 refine zIa X9 hx hZ e9 p_Arv_qa (by decide) rfl d71 72 rfl ?_
 refine zq 74 [.int (-2147483648), .int 1] (fun t k => X9.ldcInt hx hown (mvT hZ (tw hw 160 rfl)) (g := (mkF m 72 #[rv u, rv q, iv 1, rv qa, iv 0, iv 0, iv (-2147483647), .unset] [.int 1])) rfl d72 _ k) ?_
 refine zq 75 [.int ((1 : Int32) + (-2147483648 : Int32))] (fun t k => XS.iadd X9.here hx rfl d74 rfl k) ?_
 have rw13 : ((1 : Int32) + (-2147483648 : Int32)) = (-2147483647 : Int32) := (by decide)
 rw [rw13]
 refine zl 77 _ [] (fun t k => XS.istore X9.here hx rfl d75 rfl (l' := #[rv u, rv q, iv 1, rv qa, iv 0, iv 0, iv (-2147483647), iv (-2147483647)]) rfl k) ?_
 refine zI2 X9 hx d77 rfl 79 rfl ?_
 refine zI2 X9 hx d79 rfl 81 rfl ?_
 refine zCY X9 hx d81 (flt (by decide : ¬ ((-2147483647 : Int32) < (-2147483647 : Int32)))).2.1 86 (by decide) ?_
 refine zI2 X9 hx d86 rfl 88 rfl ?_
 refine zI2 X9 hx d88 rfl 90 rfl ?_
 refine zCY X9 hx d90 (flt (by decide : ¬ ((-2147483647 : Int32) < (-2147483647 : Int32)))).2.2.2 95 (by decide) ?_
 refine zl 98 _ [] (fun t k => own_iinc X9.here hx rfl (q := (1 : Int32)) (by decide) (l' := #[.val (.ref u), .val (.ref q), .val (.int (1 : Int32)), .val (.ref qa), .val (.int ((0 : Int32) + (1 : Int32))), .val (.int (0 : Int32)), .val (.int (-2147483647 : Int32)), .val (.int (-2147483647 : Int32))]) d95 rfl rfl k) ?_
 have rw14 : ((0 : Int32) + (1 : Int32)) = (1 : Int32) := (by decide)
 rw [rw14]
 refine zl 101 _ [] (fun t k => own_iinc X9.here hx rfl (q := (1 : Int32)) (by decide) (l' := #[.val (.ref u), .val (.ref q), .val (.int (1 : Int32)), .val (.ref qa), .val (.int (1 : Int32)), .val (.int ((0 : Int32) + (1 : Int32))), .val (.int (-2147483647 : Int32)), .val (.int (-2147483647 : Int32))]) d98 rfl rfl k) ?_
 have rw15 : ((0 : Int32) + (1 : Int32)) = (1 : Int32) := (by decide)
 rw [rw15]
 refine zG X9 hx d101 42 (by decide) ?_
 refine zI2 X9 hx d42 rfl 44 rfl ?_
 refine zR X9 hx d44 rfl rfl 45 rfl ?_
 refine zP X9 hx hZ hown (tw hw 139 rfl) e9 p_Fld_u_intLen d45 48 rfl fun T16 X16 e16 => ?_
 refine zR X16 hx d48 rfl rfl 49 rfl ?_
 refine zP X16 hx hZ hown (tw hw 135 rfl) e16 p_Fld_u_offset d49 52 rfl fun T17 X17 e17 => ?_
 refine zq 53 [.int 1, .int 1] (fun t k => XS.iadd X17.here hx rfl d52 rfl k) ?_
 refine zCY X17 hx d53 (flt (by decide : ¬ ((1 : Int32) < (1 : Int32)))).2.1 104 (by decide) ?_
 refine zK X17 hx d104 0 rfl 105 rfl ?_
 exact own_finI X17 hx hlk (t := .int) hre (by simp) rfl d105 e17 ⟨rfl, N0, rfl⟩ (by decide) (by decide)
def QrmCmp11b (Z : State) (u : Addr) (ua : Addr) (k : ClassId) (q : Addr) (qa : Addr) (kq : ClassId) (x : Int32) (h0 : Heap) (n0 : Nat) (v : Option Value) (h : Heap) (L : List Loc) : Prop := v = some (.int (1 : Int32)) ∧ Fr n0 L ∧ h = h0
abbrev RrmCmp11b : Room := { frames := 0, cells := 0, slots := 0, locals := 0 }
theorem rmCmp11b (l : Launch) (Z : State) (a0 : Array Value) (hw : ∀ d ∈ tables_1, d.before a0 Z = true) (ws : List Jvm.Cond) (u : Addr) (ua : Addr) (k : ClassId) (q : Addr) (qa : Addr) (kq : ClassId) (x : Int32) (h0 : Heap) (n0 : Nat) (Z0 : n0 ≤ h0.size)  (p_Exa_u : Exa Z h0 u "java/math/MutableBigInteger") (p_Fld_u_value : Fld Z h0 u "java/math/MutableBigInteger" "value" "[I" (.ref ua)) (p_Fld_u_intLen : Fld Z h0 u "java/math/MutableBigInteger" "intLen" "I" (.int (1 : Int32))) (p_Fld_u_offset : Fld Z h0 u "java/math/MutableBigInteger" "offset" "I" (.int (0 : Int32))) (p_Arv_ua : Arv Z h0 ua k .int (1 : Int32) [(.int x)] (.int (0 : Int32))) (p_Exa_q : Exa Z h0 q "java/math/MutableBigInteger") (p_Fld_q_value : Fld Z h0 q "java/math/MutableBigInteger" "value" "[I" (.ref qa)) (p_Fld_q_intLen : Fld Z h0 q "java/math/MutableBigInteger" "intLen" "I" (.int (1 : Int32))) (p_Fld_q_offset : Fld Z h0 q "java/math/MutableBigInteger" "offset" "I" (.int (0 : Int32))) (p_Arv_qa : Arv Z h0 qa kq .int (1 : Int32) [(.int (1 : Int32))] (.int (0 : Int32))) (hz : ¬ x = (0 : Int32)) (hone : ¬ x = (1 : Int32)) : Mf l Z Nm7 jdk_2101_method_15_code 8 (Option.some Jvm.ClassFile.FieldType.int) ws RrmCmp11b #[(.ref u), (.ref q)] h0 (QrmCmp11b Z u ua k q qa kq x h0 n0) := by
 refine own_entry (plainFor_of_name pn_java_math_MutableBigInteger) #[rv u, rv q, .unset, .unset, .unset, .unset, .unset, .unset] (fun _ => rfl) fun p e s m below meth c s₁ hx hby hml hown hnm hlk hre hZ X0 e0 => ?_
 have N0 := Fr.nil n0
 obtain ⟨d0, d1, d4, d5, d6, d9, d10, d15, d16, d19, d20, -, -, d25, d26, d29, d30, d31, d34, d36, d37, d40, d42, d44, d45, d48, d49, d52, d53, d56, d57, d60, d62, d63, d65, d66, d68, d69, d71, d72, d74, d75, d77, d79, d81, d86, d88, d90, d93, d94, -⟩ := D_7 hby
 refine zR X0 hx d0 rfl rfl 1 rfl ?_
 refine zP X0 hx hZ hown (tw hw 139 rfl) e0 p_Fld_q_intLen d1 4 rfl fun T1 X1 e1 => ?_
 refine zl 5 _ [] (fun t k => XS.istoreN X1.here hx rfl d4 rfl (l' := #[rv u, rv q, iv 1, .unset, .unset, .unset, .unset, .unset]) rfl k) ?_
 refine zR X1 hx d5 rfl rfl 6 rfl ?_
 refine zP X1 hx hZ hown (tw hw 139 rfl) e1 p_Fld_u_intLen d6 9 rfl fun T2 X2 e2 => ?_
 refine zI X2 hx d9 rfl 10 rfl ?_
 refine zCY X2 hx d10 (flt (by decide : ¬ ((1 : Int32) < (1 : Int32)))).2.1 15 (by decide) ?_
 refine zR X2 hx d15 rfl rfl 16 rfl ?_
 refine zP X2 hx hZ hown (tw hw 139 rfl) e2 p_Fld_u_intLen d16 19 rfl fun T3 X3 e3 => ?_
 refine zI X3 hx d19 rfl 20 rfl ?_
 refine zCY X3 hx d20 (flt (by decide : ¬ ((1 : Int32) < (1 : Int32)))).2.2.2 25 (by decide) ?_
 refine zR X3 hx d25 rfl rfl 26 rfl ?_
 refine zP X3 hx hZ hown (tw hw 137 rfl) e3 p_Fld_q_value d26 29 rfl fun T4 X4 e4 => ?_
 refine zl 30 _ [] (fun t k => XS.astoreN X4.here hx rfl d29 rfl rfl (l' := #[rv u, rv q, iv 1, rv qa, .unset, .unset, .unset, .unset]) rfl k) ?_
 refine zR X4 hx d30 rfl rfl 31 rfl ?_
 refine zP X4 hx hZ hown (tw hw 135 rfl) e4 p_Fld_u_offset d31 34 rfl fun T5 X5 e5 => ?_
 refine zl 36 _ [] (fun t k => XS.istore X5.here hx rfl d34 rfl (l' := #[rv u, rv q, iv 1, rv qa, iv 0, .unset, .unset, .unset]) rfl k) ?_
 refine zR X5 hx d36 rfl rfl 37 rfl ?_
 refine zP X5 hx hZ hown (tw hw 135 rfl) e5 p_Fld_q_offset d37 40 rfl fun T6 X6 e6 => ?_
 refine zl 42 _ [] (fun t k => XS.istore X6.here hx rfl d40 rfl (l' := #[rv u, rv q, iv 1, rv qa, iv 0, iv 0, .unset, .unset]) rfl k) ?_
 refine zI2 X6 hx d42 rfl 44 rfl ?_
 refine zR X6 hx d44 rfl rfl 45 rfl ?_
 refine zP X6 hx hZ hown (tw hw 139 rfl) e6 p_Fld_u_intLen d45 48 rfl fun T7 X7 e7 => ?_
 refine zR X7 hx d48 rfl rfl 49 rfl ?_
 refine zP X7 hx hZ hown (tw hw 135 rfl) e7 p_Fld_u_offset d49 52 rfl fun T8 X8 e8 => ?_
 refine zq 53 [.int 1, .int 0] (fun t k => XS.iadd X8.here hx rfl d52 rfl k) ?_
 refine zCN X8 hx d53 (tlt (by decide : ((0 : Int32) < (1 : Int32)))).2.1 56 rfl ?_
 refine zR X8 hx d56 rfl rfl 57 rfl ?_
 refine zP X8 hx hZ hown (tw hw 137 rfl) e8 p_Fld_u_value d57 60 rfl fun T9 X9 e9 => ?_
 refine zI2 X9 hx d60 rfl 62 rfl ?_
 refine zIa X9 hx hZ e9 p_Arv_ua (by decide) rfl d62 63 rfl ?_
 refine zq 65 [.int (-2147483648), .int x] (fun t k => X9.ldcInt hx hown (mvT hZ (tw hw 160 rfl)) (g := (mkF m 63 #[rv u, rv q, iv 1, rv qa, iv 0, iv 0, .unset, .unset] [.int x])) rfl d63 _ k) ?_
 refine zq 66 [.int (x + (-2147483648 : Int32))] (fun t k => XS.iadd X9.here hx rfl d65 rfl k) ?_
 refine zl 68 _ [] (fun t k => XS.istore X9.here hx rfl d66 rfl (l' := #[rv u, rv q, iv 1, rv qa, iv 0, iv 0, iv (x + (-2147483648 : Int32)), .unset]) rfl k) ?_
 refine zR X9 hx d68 rfl rfl 69 rfl ?_
 refine zI2 X9 hx d69 rfl 71 rfl ?_
 refine zIa X9 hx hZ e9 p_Arv_qa (by decide) rfl d71 72 rfl ?_
 refine zq 74 [.int (-2147483648), .int 1] (fun t k => X9.ldcInt hx hown (mvT hZ (tw hw 160 rfl)) (g := (mkF m 72 #[rv u, rv q, iv 1, rv qa, iv 0, iv 0, iv (x + (-2147483648 : Int32)), .unset] [.int 1])) rfl d72 _ k) ?_
 refine zq 75 [.int ((1 : Int32) + (-2147483648 : Int32))] (fun t k => XS.iadd X9.here hx rfl d74 rfl k) ?_
 have rw12 : ((1 : Int32) + (-2147483648 : Int32)) = (-2147483647 : Int32) := (by decide)
 rw [rw12]
 refine zl 77 _ [] (fun t k => XS.istore X9.here hx rfl d75 rfl (l' := #[rv u, rv q, iv 1, rv qa, iv 0, iv 0, iv (x + (-2147483648 : Int32)), iv (-2147483647)]) rfl k) ?_
 refine zI2 X9 hx d77 rfl 79 rfl ?_
 refine zI2 X9 hx d79 rfl 81 rfl ?_
 refine zCY X9 hx d81 (flt (nlt1b hone hz)).2.1 86 (by decide) ?_
 refine zI2 X9 hx d86 rfl 88 rfl ?_
 refine zI2 X9 hx d88 rfl 90 rfl ?_
 refine zCN X9 hx d90 (tlt (gt1b hone hz)).2.2.2 93 rfl ?_
 refine zK X9 hx d93 1 rfl 94 rfl ?_
 exact own_finI X9 hx hlk (t := .int) hre (by simp) rfl d94 e9 ⟨rfl, N0, rfl⟩ (by decide) (by decide)
def QrmClr (Z : State) (q : Addr) (qa : Addr) (kq : ClassId) (h0 : Heap) (n0 : Nat) (v : Option Value) (h : Heap) (L : List Loc) : Prop := v = none ∧ Fr n0 L ∧ Keep h0 h [q, qa] ∧ (Exa Z h q "java/math/MutableBigInteger") ∧ (Fld Z h q "java/math/MutableBigInteger" "value" "[I" (.ref qa)) ∧ (Fld Z h q "java/math/MutableBigInteger" "intLen" "I" (.int (0 : Int32))) ∧ (Fld Z h q "java/math/MutableBigInteger" "offset" "I" (.int (0 : Int32))) ∧ (Arv Z h qa kq .int (1 : Int32) [(.int (0 : Int32))] (.int (0 : Int32)))
abbrev RrmClr : Room := { frames := 0, cells := 0, slots := 0, locals := 0 }
theorem rmClr (l : Launch) (Z : State) (a0 : Array Value) (hw : ∀ d ∈ tables_1, d.before a0 Z = true) (ws : List Jvm.Cond) (q : Addr) (qa : Addr) (kq : ClassId) (h0 : Heap) (n0 : Nat) (Z0 : n0 ≤ h0.size)  (p_Exa_q : Exa Z h0 q "java/math/MutableBigInteger") (p_Fld_q_value : Fld Z h0 q "java/math/MutableBigInteger" "value" "[I" (.ref qa)) (p_Fld_q_intLen : Fld Z h0 q "java/math/MutableBigInteger" "intLen" "I" (.int (0 : Int32))) (p_Fld_q_offset : Fld Z h0 q "java/math/MutableBigInteger" "offset" "I" (.int (0 : Int32))) (p_Arv_qa : Arv Z h0 qa kq .int (1 : Int32) [(.int (0 : Int32))] (.int (0 : Int32))) (ge3 : n0 ≤ q) (ge4 : n0 ≤ qa) (ne6 : qa ≠ q) : Mf l Z Nm24 jdk_2101_method_13_code 3 (Option.none : Option Jvm.ClassFile.FieldType) ws RrmClr #[(.ref q)] h0 (QrmClr Z q qa kq h0 n0) := by
 refine own_entry (plainFor_of_name pn_java_math_MutableBigInteger) #[rv q, .unset, .unset] (fun _ => rfl) fun p e s m below meth c s₁ hx hby hml hown hnm hlk hre hZ X0 e0 => ?_
 have N0 := Fr.nil n0
 obtain ⟨d0, d1, d2, d3, d4, d7, d10, d11, d12, d13, d16, d17, d18, d19, d20, d23, d24, d27, d28, d29, d30, d33, d36, -⟩ := D_24 hby
 refine zR X0 hx d0 rfl rfl 1 rfl ?_
 refine zR X0 hx d1 rfl rfl 2 rfl ?_
 refine zK X0 hx d2 0 rfl 3 rfl ?_
 refine zq 4 [.int 0, .ref q, .int 0, .ref q] (fun t k => XS.dupX1 X0.here hx rfl d3 rfl rfl rfl k) ?_
 obtain ⟨T1, h1, X1, e1, W1, st1⟩ := putF X0 hx hZ hown (host := "") (Or.inl (tw hw 139 rfl)) Via.refl e0 p_Fld_q_intLen p_Exa_q (Or.inl (tw hw 140 rfl)) (tw hw 128 rfl) pf_0 rfl rfl (g := (mkF m 4 #[rv q, .unset, .unset] [.int 0, .ref q, .int 0, .ref q])) rfl rfl d4
 have N1 := Fr.snoc X1 N0 ge3
 have Fw1 : Fld Z h1 q "java/math/MutableBigInteger" "intLen" "I" (.int (0 : Int32)) := p_Fld_q_intLen.same W1
 refine zt 7 [.int 0, .ref q] st1 ?_
 have F2 := (p_Exa_q.wr W1)
 have F3 := (p_Fld_q_offset.other W1 (Or.inr (sn_java_math_MutableBigInteger_offset__intLen hw)))
 obtain ⟨T4, h4, X4, e4, W4, st4⟩ := putF X1 hx hZ hown (host := "") (Or.inl (tw hw 135 rfl)) Via.refl e1 F3 F2 (Or.inl (tw hw 136 rfl)) (tw hw 128 rfl) pf_0 rfl rfl (g := (mkF m 7 #[rv q, .unset, .unset] [.int 0, .ref q])) rfl rfl d7
 have N4 := Fr.snoc X4 N1 ge3
 have Fw4 : Fld Z h4 q "java/math/MutableBigInteger" "offset" "I" (.int (0 : Int32)) := F3.same W4
 refine zt 10 [] st4 ?_
 refine zK X4 hx d10 0 rfl 11 rfl ?_
 refine zl 12 _ [] (fun t k => XS.istoreN X4.here hx rfl d11 rfl (l' := #[rv q, iv 0, .unset]) rfl k) ?_
 refine zR X4 hx d12 rfl rfl 13 rfl ?_
 have F5 := ((p_Fld_q_value.other W1 (Or.inr (sn_java_math_MutableBigInteger_value__intLen hw))).other W4 (Or.inr (sn_java_math_MutableBigInteger_value__offset hw)))
 refine zP X4 hx hZ hown (tw hw 137 rfl) e4 F5 d13 16 rfl fun T6 X6 e6 => ?_
 have F7 := ((p_Arv_qa.other W1 ne6).other W4 ne6)
 refine zLn X6 hx hZ e6 F7 d16 17 rfl ?_
 refine zl 18 _ [] (fun t k => XS.istoreN X6.here hx rfl d17 rfl (l' := #[rv q, iv 0, iv 1]) rfl k) ?_
 refine zI X6 hx d18 rfl 19 rfl ?_
 refine zI X6 hx d19 rfl 20 rfl ?_
 refine zCN X6 hx d20 (tlt (by decide : ((0 : Int32) < (1 : Int32)))).2.1 23 rfl ?_
 refine zR X6 hx d23 rfl rfl 24 rfl ?_
 refine zP X6 hx hZ hown (tw hw 137 rfl) e6 F5 d24 27 rfl fun T9 X9 e9 => ?_
 refine zI X9 hx d27 rfl 28 rfl ?_
 refine zK X9 hx d28 0 rfl 29 rfl ?_
 obtain ⟨cl10, Ar10, q10, S10, M10, H10, Gx10⟩ := id F7
 obtain ⟨T11, h11, X11, e11, W11, st11⟩ := stI X9 hx hZ e9 Ar10 (j := (0 : Int32)) (inb_of S10 ⟨by decide, by decide⟩) (g := (mkF m 29 #[rv q, iv 0, iv 1] [.int 0, .int 0, .ref qa])) rfl rfl d29
 have N11 := Fr.snoc X11 N4 ge4
 have V11 : Arv Z h11 qa kq .int (1 : Int32) [(.int (0 : Int32))] (.int (0 : Int32)) := Arv.set Ar10 q10 S10 M10 H10 Gx10 rfl W11 0 rfl (Nat.le_of_ble_eq_true rfl)
 refine zt 30 [] st11 ?_
 refine zl 33 _ [] (fun t k => own_iinc X11.here hx rfl (q := (1 : Int32)) (by decide) (l' := #[.val (.ref q), .val (.int ((0 : Int32) + (1 : Int32))), .val (.int (1 : Int32))]) d30 rfl rfl k) ?_
 have rw12 : ((0 : Int32) + (1 : Int32)) = (1 : Int32) := (by decide)
 rw [rw12]
 refine zG X11 hx d33 18 (by decide) ?_
 refine zI X11 hx d18 rfl 19 rfl ?_
 refine zI X11 hx d19 rfl 20 rfl ?_
 refine zCY X11 hx d20 (flt (by decide : ¬ ((1 : Int32) < (1 : Int32)))).2.1 36 (by decide) ?_
 have F13 := ((F2.wr W4).wr W11)
 have F14 := (F5.other W11 (Or.inl (Ne.symm ne6)))
 have F15 := ((Fw1.other W4 (Or.inr (sn_java_math_MutableBigInteger_intLen__offset hw))).other W11 (Or.inl (Ne.symm ne6)))
 have F16 := (Fw4.other W11 (Or.inl (Ne.symm ne6)))
 exact own_finV X11 hx hlk hre d36 e11 (K := _) ⟨rfl, N11, ((((Keep.refl h0 [q, qa]).wr W1 (Or.inl (List.mem_of_getElem? (i := 0) rfl))).wr W4 (Or.inl (List.mem_of_getElem? (i := 0) rfl))).wr W11 (Or.inl (List.mem_of_getElem? (i := 1) rfl))), F13, F14, F15, F16, V11⟩ (by decide) (by decide)
def QrmDow1 (Z : State) (u : Addr) (ua : Addr) (k : ClassId) (q : Addr) (qa : Addr) (kq : ClassId) (x : Int32) (h0 : Heap) (n0 : Nat) (v : Option Value) (h : Heap) (L : List Loc) : Prop := ∃ rr : Int32, v = some (.int rr) ∧ Fr n0 L ∧ Keep h0 h [q, qa] ∧ (Exa Z h q "java/math/MutableBigInteger") ∧ (Fld Z h q "java/math/MutableBigInteger" "value" "[I" (.ref qa)) ∧ (Fld Z h q "java/math/MutableBigInteger" "intLen" "I" (.int (1 : Int32))) ∧ (Fld Z h q "java/math/MutableBigInteger" "offset" "I" (.int (0 : Int32))) ∧ (Arv Z h qa kq .int (1 : Int32) [(.int x)] (.int (0 : Int32)))
abbrev RrmDow1 : Room := { frames := 0, cells := 0, slots := 0, locals := 0 }
theorem rmDow1 (l : Launch) (Z : State) (a0 : Array Value) (hw : ∀ d ∈ tables_1, d.before a0 Z = true) (ws : List Jvm.Cond) (u : Addr) (ua : Addr) (k : ClassId) (q : Addr) (qa : Addr) (kq : ClassId) (x : Int32) (h0 : Heap) (n0 : Nat) (Z0 : n0 ≤ h0.size)  (p_Exa_u : Exa Z h0 u "java/math/MutableBigInteger") (p_Fld_u_value : Fld Z h0 u "java/math/MutableBigInteger" "value" "[I" (.ref ua)) (p_Fld_u_intLen : Fld Z h0 u "java/math/MutableBigInteger" "intLen" "I" (.int (1 : Int32))) (p_Fld_u_offset : Fld Z h0 u "java/math/MutableBigInteger" "offset" "I" (.int (0 : Int32))) (p_Arv_ua : Arv Z h0 ua k .int (1 : Int32) [(.int x)] (.int (0 : Int32))) (p_Exa_q : Exa Z h0 q "java/math/MutableBigInteger") (p_Fld_q_value : Fld Z h0 q "java/math/MutableBigInteger" "value" "[I" (.ref qa)) (p_Fld_q_intLen : Fld Z h0 q "java/math/MutableBigInteger" "intLen" "I" (.int (0 : Int32))) (p_Fld_q_offset : Fld Z h0 q "java/math/MutableBigInteger" "offset" "I" (.int (0 : Int32))) (p_Arv_qa : Arv Z h0 qa kq .int (1 : Int32) [(.int (0 : Int32))] (.int (0 : Int32))) (hz : ¬ x = (0 : Int32)) (ge3 : n0 ≤ q) (ge4 : n0 ≤ qa) (ne6 : qa ≠ q) : Mf l Z Nm25 jdk_2101_method_53_code 15 (Option.some Jvm.ClassFile.FieldType.int) ws RrmDow1 #[(.ref u), (.int (1 : Int32)), (.ref q)] h0 (QrmDow1 Z u ua k q qa kq x h0 n0) := by
 refine own_entry (plainFor_of_name pn_java_math_MutableBigInteger) #[rv u, iv 1, rv q, .unset, .unset, .unset, .unset, .unset, .unset, .unset, .unset, .unset, .unset, .unset, .unset] (fun _ => rfl) fun p e s m below meth c s₁ hx hby hml hown hnm hlk hre hZ X0 e0 => ?_
 have N0 := Fr.nil n0
 obtain ⟨d0, d1, d2, d5, d6, d7, d8, d11, d12, d15, d16, d19, d20, d23, d24, d25, d28, d29, d31, d33, d34, d35, d36, d38, d40, d42, d43, d44, d45, d46, d47, d49, d50, d53, d54, d56, d57, d58, d60, d67, d68, d71, d72, d73, d76, d78, -⟩ := D_25 hby
 refine zI X0 hx d0 rfl 1 rfl ?_
 refine zq 2 [.long ((1 : Int32).toInt64)] (fun t k => XS.i2l X0.here hx rfl d1 rfl k) ?_
 have rw1 : ((1 : Int32).toInt64) = (1 : Int64) := (by decide)
 rw [rw1]
 refine zq 5 [.long 4294967295, .long 1] (fun t k => X0.ldc2Long hx hown (mvT hZ (tw hw 251 rfl)) (g := (mkF m 2 #[rv u, iv 1, rv q, .unset, .unset, .unset, .unset, .unset, .unset, .unset, .unset, .unset, .unset, .unset, .unset] [.long 1])) rfl d2 _ k) ?_
 refine zq 6 [.long ((1 : Int64) &&& (4294967295 : Int64))] (fun t k => XS.land X0.here hx rfl d5 rfl k) ?_
 have rw2 : ((1 : Int64) &&& (4294967295 : Int64)) = (1 : Int64) := (by decide)
 rw [rw2]
 refine zl 7 _ [] (fun t k => XS.lstoreN X0.here hx rfl d6 rfl (l' := #[rv u, iv 1, rv q, .val (.long (1 : Int64)), .second, .unset, .unset, .unset, .unset, .unset, .unset, .unset, .unset, .unset, .unset]) rfl k) ?_
 refine zR X0 hx d7 rfl rfl 8 rfl ?_
 refine zP X0 hx hZ hown (tw hw 139 rfl) e0 p_Fld_u_intLen d8 11 rfl fun T3 X3 e3 => ?_
 refine zK X3 hx d11 1 rfl 12 rfl ?_
 refine zCN X3 hx d12 (teq (by decide : ((1 : Int32) = (1 : Int32)))).2 15 rfl ?_
 refine zR X3 hx d15 rfl rfl 16 rfl ?_
 refine zP X3 hx hZ hown (tw hw 137 rfl) e3 p_Fld_u_value d16 19 rfl fun T4 X4 e4 => ?_
 refine zR X4 hx d19 rfl rfl 20 rfl ?_
 refine zP X4 hx hZ hown (tw hw 135 rfl) e4 p_Fld_u_offset d20 23 rfl fun T5 X5 e5 => ?_
 refine zIa X5 hx hZ e5 p_Arv_ua (by decide) rfl d23 24 rfl ?_
 refine zq 25 [.long (x.toInt64)] (fun t k => XS.i2l X5.here hx rfl d24 rfl k) ?_
 refine zq 28 [.long 4294967295, .long (x.toInt64)] (fun t k => X5.ldc2Long hx hown (mvT hZ (tw hw 251 rfl)) (g := (mkF m 25 #[rv u, iv 1, rv q, .val (.long (1 : Int64)), .second, .unset, .unset, .unset, .unset, .unset, .unset, .unset, .unset, .unset, .unset] [.long (x.toInt64)])) rfl d25 _ k) ?_
 refine zq 29 [.long ((x.toInt64) &&& (4294967295 : Int64))] (fun t k => XS.land X5.here hx rfl d28 rfl k) ?_
 refine zl 31 _ [] (fun t k => XS.lstore X5.here hx rfl d29 rfl (l' := #[rv u, iv 1, rv q, .val (.long (1 : Int64)), .second, .val (.long ((x.toInt64) &&& (4294967295 : Int64))), .second, .unset, .unset, .unset, .unset, .unset, .unset, .unset, .unset]) rfl k) ?_
 refine zJ2 X5 hx d31 rfl 33 rfl ?_
 refine zJ X5 hx d33 rfl 34 rfl ?_
 refine zq 35 [.long (((x.toInt64) &&& (4294967295 : Int64)) / (1 : Int64))] (fun t k => XS.ldiv X5.here hx rfl d34 rfl (by decide) k) ?_
 refine zq 36 [.int ((((x.toInt64) &&& (4294967295 : Int64)) / (1 : Int64)).toInt32)] (fun t k => XS.l2i X5.here hx rfl d35 rfl k) ?_
 have rw7 : ((((x.toInt64) &&& (4294967295 : Int64)) / (1 : Int64)).toInt32) = x := (div1 x)
 rw [rw7]
 refine zl 38 _ [] (fun t k => XS.istore X5.here hx rfl d36 rfl (l' := #[rv u, iv 1, rv q, .val (.long (1 : Int64)), .second, .val (.long ((x.toInt64) &&& (4294967295 : Int64))), .second, iv x, .unset, .unset, .unset, .unset, .unset, .unset, .unset]) rfl k) ?_
 refine zJ2 X5 hx d38 rfl 40 rfl ?_
 refine zI2 X5 hx d40 rfl 42 rfl ?_
 refine zq 43 [.long (x.toInt64), .long ((x.toInt64) &&& (4294967295 : Int64))] (fun t k => XS.i2l X5.here hx rfl d42 rfl k) ?_
 refine zJ X5 hx d43 rfl 44 rfl ?_
 refine zq 45 [.long ((x.toInt64) * (1 : Int64)), .long ((x.toInt64) &&& (4294967295 : Int64))] (fun t k => XS.lmul X5.here hx rfl d44 rfl k) ?_
 refine zq 46 [.long (((x.toInt64) &&& (4294967295 : Int64)) - ((x.toInt64) * (1 : Int64)))] (fun t k => XS.lsub X5.here hx rfl d45 rfl k) ?_
 refine zq 47 [.int ((((x.toInt64) &&& (4294967295 : Int64)) - ((x.toInt64) * (1 : Int64))).toInt32)] (fun t k => XS.l2i X5.here hx rfl d46 rfl k) ?_
 refine zl 49 _ [] (fun t k => XS.istore X5.here hx rfl d47 rfl (l' := #[rv u, iv 1, rv q, .val (.long (1 : Int64)), .second, .val (.long ((x.toInt64) &&& (4294967295 : Int64))), .second, iv x, iv ((((x.toInt64) &&& (4294967295 : Int64)) - ((x.toInt64) * (1 : Int64))).toInt32), .unset, .unset, .unset, .unset, .unset, .unset]) rfl k) ?_
 refine zR X5 hx d49 rfl rfl 50 rfl ?_
 refine zP X5 hx hZ hown (tw hw 137 rfl) e5 p_Fld_q_value d50 53 rfl fun T8 X8 e8 => ?_
 refine zK X8 hx d53 0 rfl 54 rfl ?_
 refine zI2 X8 hx d54 rfl 56 rfl ?_
 obtain ⟨cl9, Ar9, q9, S9, M9, H9, Gx9⟩ := id p_Arv_qa
 obtain ⟨T10, h10, X10, e10, W10, st10⟩ := stI X8 hx hZ e8 Ar9 (j := (0 : Int32)) (inb_of S9 ⟨by decide, by decide⟩) (g := (mkF m 56 #[rv u, iv 1, rv q, .val (.long (1 : Int64)), .second, .val (.long ((x.toInt64) &&& (4294967295 : Int64))), .second, iv x, iv ((((x.toInt64) &&& (4294967295 : Int64)) - ((x.toInt64) * (1 : Int64))).toInt32), .unset, .unset, .unset, .unset, .unset, .unset] [.int x, .int 0, .ref qa])) rfl rfl d56
 have N10 := Fr.snoc X10 N0 ge4
 have V10 : Arv Z h10 qa kq .int (1 : Int32) [(.int x)] (.int (0 : Int32)) := Arv.set Ar9 q9 S9 M9 H9 Gx9 rfl W10 0 rfl (Nat.le_of_ble_eq_true rfl)
 refine zt 57 [] st10 ?_
 refine zR X10 hx d57 rfl rfl 58 rfl ?_
 refine zI2 X10 hx d58 rfl 60 rfl ?_
 refine zY X10 hx d60 ((if0 _ _).trans (feq hz).2) 67 (by decide) ?_
 refine zK X10 hx d67 1 rfl 68 rfl ?_
 have F11 := (p_Exa_q.wr W10)
 have F12 := (p_Fld_q_intLen.other W10 (Or.inl (Ne.symm ne6)))
 obtain ⟨T13, h13, X13, e13, W13, st13⟩ := putF X10 hx hZ hown (host := "") (Or.inl (tw hw 139 rfl)) Via.refl e10 F12 F11 (Or.inl (tw hw 140 rfl)) (tw hw 128 rfl) pf_0 rfl rfl (g := (mkF m 68 #[rv u, iv 1, rv q, .val (.long (1 : Int64)), .second, .val (.long ((x.toInt64) &&& (4294967295 : Int64))), .second, iv x, iv ((((x.toInt64) &&& (4294967295 : Int64)) - ((x.toInt64) * (1 : Int64))).toInt32), .unset, .unset, .unset, .unset, .unset, .unset] [.int 1, .ref q])) rfl rfl d68
 have N13 := Fr.snoc X13 N10 ge3
 have Fw13 : Fld Z h13 q "java/math/MutableBigInteger" "intLen" "I" (.int (1 : Int32)) := F12.same W13
 refine zt 71 [] st13 ?_
 refine zR X13 hx d71 rfl rfl 72 rfl ?_
 refine zK X13 hx d72 0 rfl 73 rfl ?_
 have F14 := (F11.wr W13)
 have F15 := ((p_Fld_q_offset.other W10 (Or.inl (Ne.symm ne6))).other W13 (Or.inr (sn_java_math_MutableBigInteger_offset__intLen hw)))
 obtain ⟨T16, h16, X16, e16, W16, st16⟩ := putF X13 hx hZ hown (host := "") (Or.inl (tw hw 135 rfl)) Via.refl e13 F15 F14 (Or.inl (tw hw 136 rfl)) (tw hw 128 rfl) pf_0 rfl rfl (g := (mkF m 73 #[rv u, iv 1, rv q, .val (.long (1 : Int64)), .second, .val (.long ((x.toInt64) &&& (4294967295 : Int64))), .second, iv x, iv ((((x.toInt64) &&& (4294967295 : Int64)) - ((x.toInt64) * (1 : Int64))).toInt32), .unset, .unset, .unset, .unset, .unset, .unset] [.int 0, .ref q])) rfl rfl d73
 have N16 := Fr.snoc X16 N13 ge3
 have Fw16 : Fld Z h16 q "java/math/MutableBigInteger" "offset" "I" (.int (0 : Int32)) := F15.same W16
 refine zt 76 [] st16 ?_
 refine zI2 X16 hx d76 rfl 78 rfl ?_
 have F17 := (F14.wr W16)
 have F18 := (((p_Fld_q_value.other W10 (Or.inl (Ne.symm ne6))).other W13 (Or.inr (sn_java_math_MutableBigInteger_value__intLen hw))).other W16 (Or.inr (sn_java_math_MutableBigInteger_value__offset hw)))
 have F19 := (Fw13.other W16 (Or.inr (sn_java_math_MutableBigInteger_intLen__offset hw)))
 have F20 := ((V10.other W13 ne6).other W16 ne6)
 exact own_finI X16 hx hlk (t := .int) hre (by simp) rfl d78 e16 ⟨((((x.toInt64) &&& (4294967295 : Int64)) - ((x.toInt64) * (1 : Int64))).toInt32), rfl, N16, ((((Keep.refl h0 [q, qa]).wr W10 (Or.inl (List.mem_of_getElem? (i := 1) rfl))).wr W13 (Or.inl (List.mem_of_getElem? (i := 0) rfl))).wr W16 (Or.inl (List.mem_of_getElem? (i := 0) rfl))), F17, F18, F19, Fw16, F20⟩ (by decide) (by decide)
def QrmDow2 (Z : State) (u : Addr) (ua : Addr) (k : ClassId) (q : Addr) (qa : Addr) (kq : ClassId) (x : Int32) (y : Int32) (h0 : Heap) (n0 : Nat) (v : Option Value) (h : Heap) (L : List Loc) : Prop := ∃ rr : Int32, ∃ ra : Addr, ∃ kr : ClassId, v = some (.int rr) ∧ Fr n0 L ∧ Keep h0 h [q] ∧ (Exa Z h q "java/math/MutableBigInteger") ∧ (Fld Z h q "java/math/MutableBigInteger" "value" "[I" (.ref ra)) ∧ (Fld Z h q "java/math/MutableBigInteger" "intLen" "I" (.int (2 : Int32))) ∧ (Fld Z h q "java/math/MutableBigInteger" "offset" "I" (.int (0 : Int32))) ∧ (Arv Z h ra kr .int (2 : Int32) [(.int x), (.int y)] (.int (0 : Int32))) ∧ (Exa Z h ra "[I") ∧ (h0.size ≤ ra)
abbrev RrmDow2 : Room := { frames := 1, cells := 1, slots := 2, locals := 15 }
theorem rmDow2 (l : Launch) (Z : State) (a0 : Array Value) (hw : ∀ d ∈ tables_1, d.before a0 Z = true) (ws : List Jvm.Cond) (u : Addr) (ua : Addr) (k : ClassId) (q : Addr) (qa : Addr) (kq : ClassId) (x : Int32) (y : Int32) (h0 : Heap) (n0 : Nat) (Z0 : n0 ≤ h0.size)  (p_Exa_u : Exa Z h0 u "java/math/MutableBigInteger") (p_Fld_u_value : Fld Z h0 u "java/math/MutableBigInteger" "value" "[I" (.ref ua)) (p_Fld_u_intLen : Fld Z h0 u "java/math/MutableBigInteger" "intLen" "I" (.int (2 : Int32))) (p_Fld_u_offset : Fld Z h0 u "java/math/MutableBigInteger" "offset" "I" (.int (0 : Int32))) (p_Arv_ua : Arv Z h0 ua k .int (2 : Int32) [(.int x), (.int y)] (.int (0 : Int32))) (p_Exa_q : Exa Z h0 q "java/math/MutableBigInteger") (p_Fld_q_value : Fld Z h0 q "java/math/MutableBigInteger" "value" "[I" (.ref qa)) (p_Fld_q_intLen : Fld Z h0 q "java/math/MutableBigInteger" "intLen" "I" (.int (0 : Int32))) (p_Fld_q_offset : Fld Z h0 q "java/math/MutableBigInteger" "offset" "I" (.int (0 : Int32))) (p_Arv_qa : Arv Z h0 qa kq .int (1 : Int32) [(.int (0 : Int32))] (.int (0 : Int32))) (hz : ¬ x = (0 : Int32)) (ge3 : n0 ≤ q) (ne3 : ua ≠ q) (ne5 : u ≠ q) : Mf l Z Nm25 jdk_2101_method_53_code 15 (Option.some Jvm.ClassFile.FieldType.int) ws RrmDow2 #[(.ref u), (.int (1 : Int32)), (.ref q)] h0 (QrmDow2 Z u ua k q qa kq x y h0 n0) := by
 refine own_entry (plainFor_of_name pn_java_math_MutableBigInteger) #[rv u, iv 1, rv q, .unset, .unset, .unset, .unset, .unset, .unset, .unset, .unset, .unset, .unset, .unset, .unset] (fun _ => rfl) fun p e s m below meth c s₁ hx hby hml hown hnm hlk hre hZ X0 e0 => ?_
 have N0 := Fr.nil n0
 obtain ⟨d0, d1, d2, d5, d6, d7, d8, d11, d12, -, -, -, -, -, -, -, -, -, -, -, -, -, -, -, -, -, -, -, -, -, -, -, -, -, -, -, -, -, -, -, -, -, -, -, -, -, d79, d80, d83, d84, d85, d88, d91, d92, d93, d96, d98, d101, d102, d103, d106, d107, d108, d111, d114, d115, d118, d120, d121, d124, d125, d128, d129, d131, d133, d134, d137, d138, d140, d142, d143, d144, d157, d158, d161, d162, d164, d165, d166, d167, d168, d170, d171, d174, d175, d176, d177, d178, d179, d180, d181, d183, d185, d186, d189, d190, d192, d193, d196, d198, d201, d203, d206, d208, d210, d211, d212, d215, d216, d219, d220, d223, d224, d226, d227, d228, d229, d232, d233, d234, d236, d238, d239, d240, d243, d245, d246, d247, d248, d250, d252, d254, d255, d256, d257, d258, d259, d261, d289, d290, d293, d294, d297, d299, d300, d302, d303, d305, d306, d309, d310, d312, d315, d316, d319, d321, d324, d326, d327, d328, d329, d331, -⟩ := D_25 hby
 refine zI X0 hx d0 rfl 1 rfl ?_
 refine zq 2 [.long ((1 : Int32).toInt64)] (fun t k => XS.i2l X0.here hx rfl d1 rfl k) ?_
 have rw1 : ((1 : Int32).toInt64) = (1 : Int64) := (by decide)
 rw [rw1]
 refine zq 5 [.long 4294967295, .long 1] (fun t k => X0.ldc2Long hx hown (mvT hZ (tw hw 251 rfl)) (g := (mkF m 2 #[rv u, iv 1, rv q, .unset, .unset, .unset, .unset, .unset, .unset, .unset, .unset, .unset, .unset, .unset, .unset] [.long 1])) rfl d2 _ k) ?_
 refine zq 6 [.long ((1 : Int64) &&& (4294967295 : Int64))] (fun t k => XS.land X0.here hx rfl d5 rfl k) ?_
 have rw2 : ((1 : Int64) &&& (4294967295 : Int64)) = (1 : Int64) := (by decide)
 rw [rw2]
 refine zl 7 _ [] (fun t k => XS.lstoreN X0.here hx rfl d6 rfl (l' := #[rv u, iv 1, rv q, .val (.long (1 : Int64)), .second, .unset, .unset, .unset, .unset, .unset, .unset, .unset, .unset, .unset, .unset]) rfl k) ?_
 refine zR X0 hx d7 rfl rfl 8 rfl ?_
 refine zP X0 hx hZ hown (tw hw 139 rfl) e0 p_Fld_u_intLen d8 11 rfl fun T3 X3 e3 => ?_
 refine zK X3 hx d11 1 rfl 12 rfl ?_
 refine zCY X3 hx d12 (feq (by decide : ¬ ((2 : Int32) = (1 : Int32)))).2 79 (by decide) ?_
 refine zR X3 hx d79 rfl rfl 80 rfl ?_
 refine zP X3 hx hZ hown (tw hw 137 rfl) e3 p_Fld_q_value d80 83 rfl fun T4 X4 e4 => ?_
 refine zLn X4 hx hZ e4 p_Arv_qa d83 84 rfl ?_
 refine zR X4 hx d84 rfl rfl 85 rfl ?_
 refine zP X4 hx hZ hown (tw hw 139 rfl) e4 p_Fld_u_intLen d85 88 rfl fun T6 X6 e6 => ?_
 refine zCN X6 hx d88 (tlt (by decide : ((1 : Int32) < (2 : Int32)))).2.1 91 rfl ?_
 refine zR X6 hx d91 rfl rfl 92 rfl ?_
 refine zR X6 hx d92 rfl rfl 93 rfl ?_
 refine zP X6 hx hZ hown (tw hw 139 rfl) e6 p_Fld_u_intLen d93 96 rfl fun T7 X7 e7 => ?_
 obtain ⟨T8, h8, k8, X8, e8, E8, A8, Ex8, st8⟩ := newPE X7 hx hZ (tw hw 69 rfl) e7 (g := (mkF m 96 #[rv u, iv 1, rv q, .val (.long (1 : Int64)), .second, .unset, .unset, .unset, .unset, .unset, .unset, .unset, .unset, .unset, .unset] [.int 2, .ref q])) rfl d96 rfl (by decide : ¬ ((2 : Int32) < (0 : Int32))) (cap := 2) (by decide) (by decide) (by decide) (by decide) (ad := "[I") (by decide)
 obtain ⟨b8, g8⟩ : ∃ z, z = h0.size := ⟨_, rfl⟩
 rw [← g8] at A8 Ex8 st8
 have X8 := own_reX X8 (rfl : _ = 1) (rfl : _ = 2)
 have V8 : Arv Z h8 b8 k8 .int (2 : Int32) [(.int (0 : Int32)), (.int (0 : Int32))] (.int (0 : Int32)) := (Arv.new A8 (by decide : ¬ ((2 : Int32) < (0 : Int32)))).pad (pad_rep [] (.int (0 : Int32)) 2)
 refine zt 98 [.ref b8, .ref q] st8 ?_
 have F9 := (p_Exa_q.ext E8)
 have F10 := (p_Fld_q_value.ext E8)
 obtain ⟨T11, h11, X11, e11, W11, st11⟩ := putF X8 hx hZ hown (host := "") (Or.inl (tw hw 137 rfl)) Via.refl e8 F10 F9 (Or.inl (tw hw 138 rfl)) (tw hw 128 rfl) pf_1 rfl rfl (g := (mkF m 98 #[rv u, iv 1, rv q, .val (.long (1 : Int64)), .second, .unset, .unset, .unset, .unset, .unset, .unset, .unset, .unset, .unset, .unset] [.ref b8, .ref q])) rfl rfl d98
 have N11 := Fr.snoc X11 N0 ge3
 have Fw11 : Fld Z h11 q "java/math/MutableBigInteger" "value" "[I" (.ref b8) := F10.same W11
 refine zt 101 [] st11 ?_
 refine zR X11 hx d101 rfl rfl 102 rfl ?_
 refine zK X11 hx d102 0 rfl 103 rfl ?_
 have F12 := (F9.wr W11)
 have F13 := ((p_Fld_q_offset.ext E8).other W11 (Or.inr (sn_java_math_MutableBigInteger_offset__value hw)))
 obtain ⟨T14, h14, X14, e14, W14, st14⟩ := putF X11 hx hZ hown (host := "") (Or.inl (tw hw 135 rfl)) Via.refl e11 F13 F12 (Or.inl (tw hw 136 rfl)) (tw hw 128 rfl) pf_0 rfl rfl (g := (mkF m 103 #[rv u, iv 1, rv q, .val (.long (1 : Int64)), .second, .unset, .unset, .unset, .unset, .unset, .unset, .unset, .unset, .unset, .unset] [.int 0, .ref q])) rfl rfl d103
 have N14 := Fr.snoc X14 N11 ge3
 have Fw14 : Fld Z h14 q "java/math/MutableBigInteger" "offset" "I" (.int (0 : Int32)) := F13.same W14
 refine zt 106 [] st14 ?_
 refine zR X14 hx d106 rfl rfl 107 rfl ?_
 refine zR X14 hx d107 rfl rfl 108 rfl ?_
 have F15 := (((p_Fld_u_intLen.ext E8).other W11 (Or.inl ne5)).other W14 (Or.inl ne5))
 refine zP X14 hx hZ hown (tw hw 139 rfl) e14 F15 d108 111 rfl fun T16 X16 e16 => ?_
 have F17 := (F12.wr W14)
 have F18 := (((p_Fld_q_intLen.ext E8).other W11 (Or.inr (sn_java_math_MutableBigInteger_intLen__value hw))).other W14 (Or.inr (sn_java_math_MutableBigInteger_intLen__offset hw)))
 obtain ⟨T19, h19, X19, e19, W19, st19⟩ := putF X16 hx hZ hown (host := "") (Or.inl (tw hw 139 rfl)) Via.refl e16 F18 F17 (Or.inl (tw hw 140 rfl)) (tw hw 128 rfl) pf_0 rfl rfl (g := (mkF m 111 #[rv u, iv 1, rv q, .val (.long (1 : Int64)), .second, .unset, .unset, .unset, .unset, .unset, .unset, .unset, .unset, .unset, .unset] [.int 2, .ref q])) rfl rfl d111
 have N19 := Fr.snoc X19 N14 ge3
 have Fw19 : Fld Z h19 q "java/math/MutableBigInteger" "intLen" "I" (.int (2 : Int32)) := F18.same W19
 refine zt 114 [] st19 ?_
 refine zI X19 hx d114 rfl 115 rfl ?_
 refine zCS X19 hx hZ hml hown (tw hw 282 rfl) (tw hw 231 rfl) (tw hw 56 rfl) (tw hw 232 rfl) (rmNlz l Z a0 hw [] (1 : Int32) h19 n0 (Nat.le_trans Z0 (Nat.le_trans (Nat.le_trans (Nat.le_trans E8.1 (Nat.le_of_eq W11.size.symm)) (Nat.le_of_eq W14.size.symm)) (Nat.le_of_eq W19.size.symm))) (by decide)) 0 (by decide) [] rfl (lenOf pd_0 rfl) rfl (Nat.le_of_eq rfl) e19 d115 118 rfl fun T20 L20 v20 X20 ⟨Lc20, hQ20, l20⟩ => ?_
 obtain ⟨z_20, rfl, Nq20, eh20, f20_0⟩ := hQ20
 have N20 := own_frApp N19 Nq20 l20
 refine zx [.int z_20] rfl ?_
 refine zl 120 _ [] (fun t k => XS.istore X20.here hx rfl d118 rfl (l' := #[rv u, iv 1, rv q, .val (.long (1 : Int64)), .second, iv z_20, .unset, .unset, .unset, .unset, .unset, .unset, .unset, .unset, .unset]) rfl k) ?_
 refine zR X20 hx d120 rfl rfl 121 rfl ?_
 have F21 := ((((p_Fld_u_value.ext E8).other W11 (Or.inl ne5)).other W14 (Or.inl ne5)).other W19 (Or.inl ne5))
 refine zP X20 hx hZ hown (tw hw 137 rfl) eh20 F21 d121 124 rfl fun T22 X22 e22 => ?_
 refine zR X22 hx d124 rfl rfl 125 rfl ?_
 have F23 := ((((p_Fld_u_offset.ext E8).other W11 (Or.inl ne5)).other W14 (Or.inl ne5)).other W19 (Or.inl ne5))
 refine zP X22 hx hZ hown (tw hw 135 rfl) e22 F23 d125 128 rfl fun T24 X24 e24 => ?_
 have F25 := ((((p_Arv_ua.ext E8).other W11 ne3).other W14 ne3).other W19 ne3)
 refine zIa X24 hx hZ e24 F25 (by decide) rfl d128 129 rfl ?_
 refine zl 131 _ [] (fun t k => XS.istore X24.here hx rfl d129 rfl (l' := #[rv u, iv 1, rv q, .val (.long (1 : Int64)), .second, iv z_20, iv x, .unset, .unset, .unset, .unset, .unset, .unset, .unset, .unset]) rfl k) ?_
 refine zI2 X24 hx d131 rfl 133 rfl ?_
 refine zq 134 [.long (x.toInt64)] (fun t k => XS.i2l X24.here hx rfl d133 rfl k) ?_
 refine zq 137 [.long 4294967295, .long (x.toInt64)] (fun t k => X24.ldc2Long hx hown (mvT hZ (tw hw 251 rfl)) (g := (mkF m 134 #[rv u, iv 1, rv q, .val (.long (1 : Int64)), .second, iv z_20, iv x, .unset, .unset, .unset, .unset, .unset, .unset, .unset, .unset] [.long (x.toInt64)])) rfl d134 _ k) ?_
 refine zq 138 [.long ((x.toInt64) &&& (4294967295 : Int64))] (fun t k => XS.land X24.here hx rfl d137 rfl k) ?_
 refine zl 140 _ [] (fun t k => XS.lstore X24.here hx rfl d138 rfl (l' := #[rv u, iv 1, rv q, .val (.long (1 : Int64)), .second, iv z_20, iv x, .val (.long ((x.toInt64) &&& (4294967295 : Int64))), .second, .unset, .unset, .unset, .unset, .unset, .unset]) rfl k) ?_
 refine zJ2 X24 hx d140 rfl 142 rfl ?_
 refine zJ X24 hx d142 rfl 143 rfl ?_
 refine zq 144 [.int (lcmpW ((x.toInt64) &&& (4294967295 : Int64)) (1 : Int64))] (fun t k => XS.lcmp X24.here hx rfl d143 rfl k) ?_
 refine zY X24 hx d144 ((if0 _ _).trans (flt (fun q => mask_ge1 hz ((lw_lt _ _).mp q))).2.1) 157 (by decide) ?_
 refine zR X24 hx d157 rfl rfl 158 rfl ?_
 have F27 := ((Fw11.other W14 (Or.inr (sn_java_math_MutableBigInteger_value__offset hw))).other W19 (Or.inr (sn_java_math_MutableBigInteger_value__intLen hw)))
 refine zP X24 hx hZ hown (tw hw 137 rfl) e24 F27 d158 161 rfl fun T28 X28 e28 => ?_
 refine zK X28 hx d161 0 rfl 162 rfl ?_
 refine zJ2 X28 hx d162 rfl 164 rfl ?_
 refine zJ X28 hx d164 rfl 165 rfl ?_
 refine zq 166 [.long (((x.toInt64) &&& (4294967295 : Int64)) / (1 : Int64)), .int 0, .ref b8] (fun t k => XS.ldiv X28.here hx rfl d165 rfl (by decide) k) ?_
 refine zq 167 [.int ((((x.toInt64) &&& (4294967295 : Int64)) / (1 : Int64)).toInt32), .int 0, .ref b8] (fun t k => XS.l2i X28.here hx rfl d166 rfl k) ?_
 have rw29 : ((((x.toInt64) &&& (4294967295 : Int64)) / (1 : Int64)).toInt32) = x := (div1 x)
 rw [rw29]
 have F30 := (((V8.other W11 (Ne.symm (Nat.ne_of_lt (Nat.lt_of_lt_of_le p_Exa_q.lt (Nat.le_of_eq g8.symm))))).other W14 (Ne.symm (Nat.ne_of_lt (Nat.lt_of_lt_of_le p_Exa_q.lt (Nat.le_of_eq g8.symm))))).other W19 (Ne.symm (Nat.ne_of_lt (Nat.lt_of_lt_of_le p_Exa_q.lt (Nat.le_of_eq g8.symm)))))
 obtain ⟨cl31, Ar31, q31, S31, M31, H31, Gx31⟩ := id F30
 obtain ⟨T32, h32, X32, e32, W32, st32⟩ := stI X28 hx hZ e28 Ar31 (j := (0 : Int32)) (inb_of S31 ⟨by decide, by decide⟩) (g := (mkF m 167 #[rv u, iv 1, rv q, .val (.long (1 : Int64)), .second, iv z_20, iv x, .val (.long ((x.toInt64) &&& (4294967295 : Int64))), .second, .unset, .unset, .unset, .unset, .unset, .unset] [.int x, .int 0, .ref b8])) rfl rfl d167
 have N32 := Fr.snoc X32 N20 (Nat.le_trans (Nat.le_trans Z0 (Nat.le_refl _)) (Nat.le_of_eq g8.symm))
 have V32 : Arv Z h32 b8 k8 .int (2 : Int32) [(.int x), (.int (0 : Int32))] (.int (0 : Int32)) := Arv.set Ar31 q31 S31 M31 H31 Gx31 rfl W32 0 rfl (Nat.le_of_ble_eq_true rfl)
 refine zt 168 [] st32 ?_
 refine zJ2 X32 hx d168 rfl 170 rfl ?_
 refine zR X32 hx d170 rfl rfl 171 rfl ?_
 have F33 := (F27.other W32 (Or.inl (Nat.ne_of_lt (Nat.lt_of_lt_of_le p_Exa_q.lt (Nat.le_of_eq g8.symm)))))
 refine zP X32 hx hZ hown (tw hw 137 rfl) e32 F33 d171 174 rfl fun T34 X34 e34 => ?_
 refine zK X34 hx d174 0 rfl 175 rfl ?_
 refine zIa X34 hx hZ e34 V32 (by decide) rfl d175 176 rfl ?_
 refine zq 177 [.long (x.toInt64), .long ((x.toInt64) &&& (4294967295 : Int64))] (fun t k => XS.i2l X34.here hx rfl d176 rfl k) ?_
 refine zJ X34 hx d177 rfl 178 rfl ?_
 refine zq 179 [.long ((x.toInt64) * (1 : Int64)), .long ((x.toInt64) &&& (4294967295 : Int64))] (fun t k => XS.lmul X34.here hx rfl d178 rfl k) ?_
 refine zq 180 [.long (((x.toInt64) &&& (4294967295 : Int64)) - ((x.toInt64) * (1 : Int64)))] (fun t k => XS.lsub X34.here hx rfl d179 rfl k) ?_
 refine zq 181 [.int ((((x.toInt64) &&& (4294967295 : Int64)) - ((x.toInt64) * (1 : Int64))).toInt32)] (fun t k => XS.l2i X34.here hx rfl d180 rfl k) ?_
 have rw36 : ((((x.toInt64) &&& (4294967295 : Int64)) - ((x.toInt64) * (1 : Int64))).toInt32) = (0 : Int32) := (rem1 x)
 rw [rw36]
 refine zl 183 _ [] (fun t k => XS.istore X34.here hx rfl d181 rfl (l' := #[rv u, iv 1, rv q, .val (.long (1 : Int64)), .second, iv z_20, iv 0, .val (.long ((x.toInt64) &&& (4294967295 : Int64))), .second, .unset, .unset, .unset, .unset, .unset, .unset]) rfl k) ?_
 refine zI2 X34 hx d183 rfl 185 rfl ?_
 refine zq 186 [.long ((0 : Int32).toInt64)] (fun t k => XS.i2l X34.here hx rfl d185 rfl k) ?_
 have rw37 : ((0 : Int32).toInt64) = (0 : Int64) := (by decide)
 rw [rw37]
 refine zq 189 [.long 4294967295, .long 0] (fun t k => X34.ldc2Long hx hown (mvT hZ (tw hw 251 rfl)) (g := (mkF m 186 #[rv u, iv 1, rv q, .val (.long (1 : Int64)), .second, iv z_20, iv 0, .val (.long ((x.toInt64) &&& (4294967295 : Int64))), .second, .unset, .unset, .unset, .unset, .unset, .unset] [.long 0])) rfl d186 _ k) ?_
 refine zq 190 [.long ((0 : Int64) &&& (4294967295 : Int64))] (fun t k => XS.land X34.here hx rfl d189 rfl k) ?_
 have rw38 : ((0 : Int64) &&& (4294967295 : Int64)) = (0 : Int64) := (by decide)
 rw [rw38]
 refine zl 192 _ [] (fun t k => XS.lstore X34.here hx rfl d190 rfl (l' := #[rv u, iv 1, rv q, .val (.long (1 : Int64)), .second, iv z_20, iv 0, .val (.long (0 : Int64)), .second, .unset, .unset, .unset, .unset, .unset, .unset]) rfl k) ?_
 refine zR X34 hx d192 rfl rfl 193 rfl ?_
 have F39 := ((F15.other W19 (Or.inl ne5)).other W32 (Or.inl (Nat.ne_of_lt (Nat.lt_of_lt_of_le p_Exa_u.lt (Nat.le_of_eq g8.symm)))))
 refine zP X34 hx hZ hown (tw hw 139 rfl) e34 F39 d193 196 rfl fun T40 X40 e40 => ?_
 refine zl 198 _ [] (fun t k => XS.istore X40.here hx rfl d196 rfl (l' := #[rv u, iv 1, rv q, .val (.long (1 : Int64)), .second, iv z_20, iv 0, .val (.long (0 : Int64)), .second, iv 2, .unset, .unset, .unset, .unset, .unset]) rfl k) ?_
 refine zl 201 _ [] (fun t k => own_iinc X40.here hx rfl (q := (-1 : Int32)) (by decide) (l' := #[.val (.ref u), .val (.int (1 : Int32)), .val (.ref q), .val (.long (1 : Int64)), .second, .val (.int z_20), .val (.int (0 : Int32)), .val (.long (0 : Int64)), .second, .val (.int ((2 : Int32) + (-1 : Int32))), .unset, .unset, .unset, .unset, .unset]) d198 rfl rfl k) ?_
 have rw41 : ((2 : Int32) + (-1 : Int32)) = (1 : Int32) := (by decide)
 rw [rw41]
 refine zI2 X40 hx d201 rfl 203 rfl ?_
 refine zN X40 hx d203 ((if0 _ _).trans (tlt (by decide : ((0 : Int32) < (1 : Int32)))).2.2.2) 206 rfl ?_
 refine zJ2 X40 hx d206 rfl 208 rfl ?_
 refine zq 210 [.int 32, .long 0] (fun t k => XS.bipush X40.here hx rfl d208 k) ?_
 refine zq 211 [.long ((0 : Int64) <<< ((32 : Int32) &&& 0x3f).toInt64)] (fun t k => XS.lshl X40.here hx rfl d210 rfl k) ?_
 have rw42 : ((0 : Int64) <<< ((32 : Int32) &&& 0x3f).toInt64) = (0 : Int64) := (by decide)
 rw [rw42]
 refine zR X40 hx d211 rfl rfl 212 rfl ?_
 have F43 := (F21.other W32 (Or.inl (Nat.ne_of_lt (Nat.lt_of_lt_of_le p_Exa_u.lt (Nat.le_of_eq g8.symm)))))
 refine zP X40 hx hZ hown (tw hw 137 rfl) e40 F43 d212 215 rfl fun T44 X44 e44 => ?_
 refine zR X44 hx d215 rfl rfl 216 rfl ?_
 have F45 := (F23.other W32 (Or.inl (Nat.ne_of_lt (Nat.lt_of_lt_of_le p_Exa_u.lt (Nat.le_of_eq g8.symm)))))
 refine zP X44 hx hZ hown (tw hw 135 rfl) e44 F45 d216 219 rfl fun T46 X46 e46 => ?_
 refine zR X46 hx d219 rfl rfl 220 rfl ?_
 refine zP X46 hx hZ hown (tw hw 139 rfl) e46 F39 d220 223 rfl fun T47 X47 e47 => ?_
 refine zq 224 [.int 2, .ref ua, .long 0] (fun t k => XS.iadd X47.here hx rfl d223 rfl k) ?_
 refine zI2 X47 hx d224 rfl 226 rfl ?_
 refine zq 227 [.int 1, .ref ua, .long 0] (fun t k => XS.isub X47.here hx rfl d226 rfl k) ?_
 have F48 := (F25.other W32 (Nat.ne_of_lt (Nat.lt_of_lt_of_le p_Arv_ua.lt (Nat.le_of_eq g8.symm))))
 refine zIa X47 hx hZ e47 F48 (by decide) rfl d227 228 rfl ?_
 refine zq 229 [.long (y.toInt64), .long 0] (fun t k => XS.i2l X47.here hx rfl d228 rfl k) ?_
 refine zq 232 [.long 4294967295, .long (y.toInt64), .long 0] (fun t k => X47.ldc2Long hx hown (mvT hZ (tw hw 251 rfl)) (g := (mkF m 229 #[rv u, iv 1, rv q, .val (.long (1 : Int64)), .second, iv z_20, iv 0, .val (.long (0 : Int64)), .second, iv 1, .unset, .unset, .unset, .unset, .unset] [.long (y.toInt64), .long 0])) rfl d229 _ k) ?_
 refine zq 233 [.long ((y.toInt64) &&& (4294967295 : Int64)), .long 0] (fun t k => XS.land X47.here hx rfl d232 rfl k) ?_
 refine zq 234 [.long ((0 : Int64) ||| ((y.toInt64) &&& (4294967295 : Int64)))] (fun t k => XS.lor X47.here hx rfl d233 rfl k) ?_
 have rw50 : ((0 : Int64) ||| ((y.toInt64) &&& (4294967295 : Int64))) = ((y.toInt64) &&& (4294967295 : Int64)) := (J_or0 _)
 rw [rw50]
 refine zl 236 _ [] (fun t k => XS.lstore X47.here hx rfl d234 rfl (l' := #[rv u, iv 1, rv q, .val (.long (1 : Int64)), .second, iv z_20, iv 0, .val (.long (0 : Int64)), .second, iv 1, .val (.long ((y.toInt64) &&& (4294967295 : Int64))), .second, .unset, .unset, .unset]) rfl k) ?_
 refine zJ2 X47 hx d236 rfl 238 rfl ?_
 refine zq 239 [.long 0, .long ((y.toInt64) &&& (4294967295 : Int64))] (fun t k => XS.lconst X47.here hx rfl d238 k) ?_
 refine zq 240 [.int (lcmpW ((y.toInt64) &&& (4294967295 : Int64)) (0 : Int64))] (fun t k => XS.lcmp X47.here hx rfl d239 rfl k) ?_
 refine zN X47 hx d240 ((if0 _ _).trans (flt (fun q => mask_nneg _ ((lw_lt _ _).mp q))).1) 243 rfl ?_
 refine zJ2 X47 hx d243 rfl 245 rfl ?_
 refine zJ X47 hx d245 rfl 246 rfl ?_
 refine zq 247 [.long (((y.toInt64) &&& (4294967295 : Int64)) / (1 : Int64))] (fun t k => XS.ldiv X47.here hx rfl d246 rfl (by decide) k) ?_
 refine zq 248 [.int ((((y.toInt64) &&& (4294967295 : Int64)) / (1 : Int64)).toInt32)] (fun t k => XS.l2i X47.here hx rfl d247 rfl k) ?_
 have rw51 : ((((y.toInt64) &&& (4294967295 : Int64)) / (1 : Int64)).toInt32) = y := (div1 y)
 rw [rw51]
 refine zl 250 _ [] (fun t k => XS.istore X47.here hx rfl d248 rfl (l' := #[rv u, iv 1, rv q, .val (.long (1 : Int64)), .second, iv z_20, iv 0, .val (.long (0 : Int64)), .second, iv 1, .val (.long ((y.toInt64) &&& (4294967295 : Int64))), .second, iv y, .unset, .unset]) rfl k) ?_
 refine zJ2 X47 hx d250 rfl 252 rfl ?_
 refine zI2 X47 hx d252 rfl 254 rfl ?_
 refine zq 255 [.long (y.toInt64), .long ((y.toInt64) &&& (4294967295 : Int64))] (fun t k => XS.i2l X47.here hx rfl d254 rfl k) ?_
 refine zJ X47 hx d255 rfl 256 rfl ?_
 refine zq 257 [.long ((y.toInt64) * (1 : Int64)), .long ((y.toInt64) &&& (4294967295 : Int64))] (fun t k => XS.lmul X47.here hx rfl d256 rfl k) ?_
 refine zq 258 [.long (((y.toInt64) &&& (4294967295 : Int64)) - ((y.toInt64) * (1 : Int64)))] (fun t k => XS.lsub X47.here hx rfl d257 rfl k) ?_
 refine zq 259 [.int ((((y.toInt64) &&& (4294967295 : Int64)) - ((y.toInt64) * (1 : Int64))).toInt32)] (fun t k => XS.l2i X47.here hx rfl d258 rfl k) ?_
 have rw52 : ((((y.toInt64) &&& (4294967295 : Int64)) - ((y.toInt64) * (1 : Int64))).toInt32) = (0 : Int32) := (rem1 y)
 rw [rw52]
 refine zl 261 _ [] (fun t k => XS.istore X47.here hx rfl d259 rfl (l' := #[rv u, iv 1, rv q, .val (.long (1 : Int64)), .second, iv z_20, iv 0, .val (.long (0 : Int64)), .second, iv 1, .val (.long ((y.toInt64) &&& (4294967295 : Int64))), .second, iv y, .unset, .unset]) rfl k) ?_
 refine zG X47 hx d261 289 (by decide) ?_
 refine zR X47 hx d289 rfl rfl 290 rfl ?_
 refine zP X47 hx hZ hown (tw hw 137 rfl) e47 F33 d290 293 rfl fun T53 X53 e53 => ?_
 refine zR X53 hx d293 rfl rfl 294 rfl ?_
 refine zP X53 hx hZ hown (tw hw 139 rfl) e53 F39 d294 297 rfl fun T54 X54 e54 => ?_
 refine zI2 X54 hx d297 rfl 299 rfl ?_
 refine zq 300 [.int 1, .ref b8] (fun t k => XS.isub X54.here hx rfl d299 rfl k) ?_
 refine zI2 X54 hx d300 rfl 302 rfl ?_
 obtain ⟨cl55, Ar55, q55, S55, M55, H55, Gx55⟩ := id V32
 obtain ⟨T56, h56, X56, e56, W56, st56⟩ := stI X54 hx hZ e54 Ar55 (j := (1 : Int32)) (inb_of S55 ⟨by decide, by decide⟩) (g := (mkF m 302 #[rv u, iv 1, rv q, .val (.long (1 : Int64)), .second, iv z_20, iv 0, .val (.long (0 : Int64)), .second, iv 1, .val (.long ((y.toInt64) &&& (4294967295 : Int64))), .second, iv y, .unset, .unset] [.int y, .int 1, .ref b8])) rfl rfl d302
 have N56 := Fr.snoc X56 N32 (Nat.le_trans (Nat.le_trans Z0 (Nat.le_refl _)) (Nat.le_of_eq g8.symm))
 have V56 : Arv Z h56 b8 k8 .int (2 : Int32) [(.int x), (.int y)] (.int (0 : Int32)) := Arv.set Ar55 q55 S55 M55 H55 Gx55 rfl W56 1 rfl (Nat.le_of_ble_eq_true rfl)
 refine zt 303 [] st56 ?_
 refine zI2 X56 hx d303 rfl 305 rfl ?_
 refine zq 306 [.long ((0 : Int32).toInt64)] (fun t k => XS.i2l X56.here hx rfl d305 rfl k) ?_
 have rw57 : ((0 : Int32).toInt64) = (0 : Int64) := (by decide)
 rw [rw57]
 refine zq 309 [.long 4294967295, .long 0] (fun t k => X56.ldc2Long hx hown (mvT hZ (tw hw 251 rfl)) (g := (mkF m 306 #[rv u, iv 1, rv q, .val (.long (1 : Int64)), .second, iv z_20, iv 0, .val (.long (0 : Int64)), .second, iv 1, .val (.long ((y.toInt64) &&& (4294967295 : Int64))), .second, iv y, .unset, .unset] [.long 0])) rfl d306 _ k) ?_
 refine zq 310 [.long ((0 : Int64) &&& (4294967295 : Int64))] (fun t k => XS.land X56.here hx rfl d309 rfl k) ?_
 have rw58 : ((0 : Int64) &&& (4294967295 : Int64)) = (0 : Int64) := (by decide)
 rw [rw58]
 refine zl 312 _ [] (fun t k => XS.lstore X56.here hx rfl d310 rfl (l' := #[rv u, iv 1, rv q, .val (.long (1 : Int64)), .second, iv z_20, iv 0, .val (.long (0 : Int64)), .second, iv 1, .val (.long ((y.toInt64) &&& (4294967295 : Int64))), .second, iv y, .unset, .unset]) rfl k) ?_
 refine zG X56 hx d312 198 (by decide) ?_
 refine zl 201 _ [] (fun t k => own_iinc X56.here hx rfl (q := (-1 : Int32)) (by decide) (l' := #[.val (.ref u), .val (.int (1 : Int32)), .val (.ref q), .val (.long (1 : Int64)), .second, .val (.int z_20), .val (.int (0 : Int32)), .val (.long (0 : Int64)), .second, .val (.int ((1 : Int32) + (-1 : Int32))), .val (.long ((y.toInt64) &&& (4294967295 : Int64))), .second, .val (.int y), .unset, .unset]) d198 rfl rfl k) ?_
 have rw59 : ((1 : Int32) + (-1 : Int32)) = (0 : Int32) := (by decide)
 rw [rw59]
 refine zI2 X56 hx d201 rfl 203 rfl ?_
 refine zY X56 hx d203 ((if0 _ _).trans (flt (by decide : ¬ ((0 : Int32) < (0 : Int32)))).2.2.2) 315 (by decide) ?_
 refine zR X56 hx d315 rfl rfl 316 rfl ?_
 have F60 := (((F17.wr W19).wr W32).wr W56)
 have F61 := (F33.other W56 (Or.inl (Nat.ne_of_lt (Nat.lt_of_lt_of_le p_Exa_q.lt (Nat.le_of_eq g8.symm)))))
 have F62 := ((Fw19.other W32 (Or.inl (Nat.ne_of_lt (Nat.lt_of_lt_of_le p_Exa_q.lt (Nat.le_of_eq g8.symm))))).other W56 (Or.inl (Nat.ne_of_lt (Nat.lt_of_lt_of_le p_Exa_q.lt (Nat.le_of_eq g8.symm)))))
 have F63 := (((Fw14.other W19 (Or.inr (sn_java_math_MutableBigInteger_offset__intLen hw))).other W32 (Or.inl (Nat.ne_of_lt (Nat.lt_of_lt_of_le p_Exa_q.lt (Nat.le_of_eq g8.symm))))).other W56 (Or.inl (Nat.ne_of_lt (Nat.lt_of_lt_of_le p_Exa_q.lt (Nat.le_of_eq g8.symm)))))
 refine zCV X56 hx hZ hml hown (tw hw 283 rfl) (tw hw 284 rfl) (tw hw 129 rfl) (tw hw 287 rfl) (tw hw 286 rfl) (tw hw 285 rfl) (rmNorm2 l Z a0 hw [] q b8 k8 x y h56 n0 (Nat.le_trans Z0 (Nat.le_trans (Nat.le_trans (Nat.le_trans (Nat.le_trans (Nat.le_trans E8.1 (Nat.le_of_eq W11.size.symm)) (Nat.le_of_eq W14.size.symm)) (Nat.le_of_eq W19.size.symm)) (Nat.le_of_eq W32.size.symm)) (Nat.le_of_eq W56.size.symm))) F60 F61 F62 F63 V56 hz) 0 (by decide) q [] rfl rfl (lenOf pd_2 rfl) rfl (Nat.le_of_eq rfl) e56 F60 d316 319 rfl fun T64 L64 v64 X64 ⟨Lc64, hQ64, l64⟩ => ?_
 obtain ⟨rfl, Nq64, eh64⟩ := hQ64
 have N64 := own_frApp N56 Nq64 l64
 refine zx [] rfl ?_
 refine zI2 X64 hx d319 rfl 321 rfl ?_
 by_cases c65 : (0 : Int32) < z_20
 ·refine zN X64 hx d321 ((if0 _ _).trans (tlt c65).2.2.2) 324 rfl ?_
  refine zI2 X64 hx d324 rfl 326 rfl ?_
  refine zI X64 hx d326 rfl 327 rfl ?_
  refine zq 328 [.int ((0 : Int32) % (1 : Int32))] (fun t k => iremM X64 hx rfl d327 rfl (by decide) k) ?_
  have F66 := (((((Ex8.wr W11).wr W14).wr W19).wr W32).wr W56)
  exact own_finI X64 hx hlk (t := .int) hre (by simp) rfl d328 eh64 ⟨((0 : Int32) % (1 : Int32)), b8, k8, rfl, N64, (((((((Keep.refl h0 [q]).ext E8).wr W11 (Or.inl (List.mem_of_getElem? (i := 0) rfl))).wr W14 (Or.inl (List.mem_of_getElem? (i := 0) rfl))).wr W19 (Or.inl (List.mem_of_getElem? (i := 0) rfl))).wr W32 (Or.inr (Nat.le_trans (Nat.le_refl _) (Nat.le_of_eq g8.symm)))).wr W56 (Or.inr (Nat.le_trans (Nat.le_refl _) (Nat.le_of_eq g8.symm)))), F60, F61, F62, F63, V56, F66, (Nat.le_trans (Nat.le_refl _) (Nat.le_of_eq g8.symm))⟩ (by decide) (by decide)
 ·refine zY X64 hx d321 ((if0 _ _).trans (flt c65).2.2.2) 329 (by decide) ?_
  refine zI2 X64 hx d329 rfl 331 rfl ?_
  have F67 := (((((Ex8.wr W11).wr W14).wr W19).wr W32).wr W56)
  exact own_finI X64 hx hlk (t := .int) hre (by simp) rfl d331 eh64 ⟨(0 : Int32), b8, k8, rfl, N64, (((((((Keep.refl h0 [q]).ext E8).wr W11 (Or.inl (List.mem_of_getElem? (i := 0) rfl))).wr W14 (Or.inl (List.mem_of_getElem? (i := 0) rfl))).wr W19 (Or.inl (List.mem_of_getElem? (i := 0) rfl))).wr W32 (Or.inr (Nat.le_trans (Nat.le_refl _) (Nat.le_of_eq g8.symm)))).wr W56 (Or.inr (Nat.le_trans (Nat.le_refl _) (Nat.le_of_eq g8.symm)))), F60, F61, F62, F63, V56, F67, (Nat.le_trans (Nat.le_refl _) (Nat.le_of_eq g8.symm))⟩ (by decide) (by decide)
def QrmDk0 (Z : State) (u : Addr) (ua : Addr) (d : Addr) (da : Addr) (kd : ClassId) (q : Addr) (qa : Addr) (kq : ClassId) (h0 : Heap) (n0 : Nat) (v : Option Value) (h : Heap) (L : List Loc) : Prop := v = some .null ∧ Fr n0 L ∧ Keep h0 h [q] ∧ (Exa Z h q "java/math/MutableBigInteger") ∧ (Fld Z h q "java/math/MutableBigInteger" "value" "[I" (.ref qa)) ∧ (Fld Z h q "java/math/MutableBigInteger" "intLen" "I" (.int (0 : Int32))) ∧ (Fld Z h q "java/math/MutableBigInteger" "offset" "I" (.int (0 : Int32)))
abbrev RrmDk0 : Room := { frames := 0, cells := 0, slots := 0, locals := 0 }
theorem rmDk0 (l : Launch) (Z : State) (a0 : Array Value) (hw : ∀ d ∈ tables_1, d.before a0 Z = true) (ws : List Jvm.Cond) (u : Addr) (ua : Addr) (d : Addr) (da : Addr) (kd : ClassId) (q : Addr) (qa : Addr) (kq : ClassId) (h0 : Heap) (n0 : Nat) (Z0 : n0 ≤ h0.size)  (p_Exa_u : Exa Z h0 u "java/math/MutableBigInteger") (p_Fld_u_value : Fld Z h0 u "java/math/MutableBigInteger" "value" "[I" (.ref ua)) (p_Fld_u_intLen : Fld Z h0 u "java/math/MutableBigInteger" "intLen" "I" (.int (0 : Int32))) (p_Fld_u_offset : Fld Z h0 u "java/math/MutableBigInteger" "offset" "I" (.int (0 : Int32))) (p_Exa_d : Exa Z h0 d "java/math/MutableBigInteger") (p_Fld_d_value : Fld Z h0 d "java/math/MutableBigInteger" "value" "[I" (.ref da)) (p_Fld_d_intLen : Fld Z h0 d "java/math/MutableBigInteger" "intLen" "I" (.int (1 : Int32))) (p_Fld_d_offset : Fld Z h0 d "java/math/MutableBigInteger" "offset" "I" (.int (0 : Int32))) (p_Arv_da : Arv Z h0 da kd .int (1 : Int32) [(.int (1 : Int32))] (.int (0 : Int32))) (p_Exa_q : Exa Z h0 q "java/math/MutableBigInteger") (p_Fld_q_value : Fld Z h0 q "java/math/MutableBigInteger" "value" "[I" (.ref qa)) (p_Fld_q_intLen : Fld Z h0 q "java/math/MutableBigInteger" "intLen" "I" (.int (0 : Int32))) (p_Fld_q_offset : Fld Z h0 q "java/math/MutableBigInteger" "offset" "I" (.int (0 : Int32))) (p_Arv_qa : Arv Z h0 qa kq .int (1 : Int32) [(.int (0 : Int32))] (.int (0 : Int32))) (ge3 : n0 ≤ q) (ge4 : n0 ≤ qa) (ne6 : qa ≠ q) (nd1 : da ≠ q) (nd2 : d ≠ q) (nd3 : da ≠ qa) (nd4 : d ≠ qa) : Mf l Z Nm26 jdk_2101_method_57_code 8 (Option.some (Jvm.ClassFile.FieldType.object "java/math/MutableBigInteger")) ws RrmDk0 #[(.ref u), (.ref d), (.ref q), (.int (0 : Int32))] h0 (QrmDk0 Z u ua d da kd q qa kq h0 n0) := by
 refine own_entry (plainFor_of_name pn_java_math_MutableBigInteger) #[rv u, rv d, rv q, iv 0, .unset, .unset, .unset, .unset] (fun _ => rfl) fun p e s m below meth c s₁ hx hby hml hown hnm hlk hre hZ X0 e0 => ?_
 have N0 := Fr.nil n0
 obtain ⟨d0, d1, d4, d17, d18, d21, d24, d25, d26, d27, d28, d31, d34, d35, d48, d49, -⟩ := D_26 hby
 refine zR X0 hx d0 rfl rfl 1 rfl ?_
 refine zP X0 hx hZ hown (tw hw 139 rfl) e0 p_Fld_d_intLen d1 4 rfl fun T1 X1 e1 => ?_
 refine zY X1 hx d4 ((if0 _ _).trans (feq (by decide : ¬ ((1 : Int32) = (0 : Int32)))).2) 17 (by decide) ?_
 refine zR X1 hx d17 rfl rfl 18 rfl ?_
 refine zP X1 hx hZ hown (tw hw 139 rfl) e1 p_Fld_u_intLen d18 21 rfl fun T2 X2 e2 => ?_
 refine zN X2 hx d21 ((if0 _ _).trans (teq (by decide : ((0 : Int32) = (0 : Int32)))).2) 24 rfl ?_
 refine zR X2 hx d24 rfl rfl 25 rfl ?_
 refine zR X2 hx d25 rfl rfl 26 rfl ?_
 refine zK X2 hx d26 0 rfl 27 rfl ?_
 refine zq 28 [.int 0, .ref q, .int 0, .ref q] (fun t k => XS.dupX1 X2.here hx rfl d27 rfl rfl rfl k) ?_
 obtain ⟨T3, h3, X3, e3, W3, st3⟩ := putF X2 hx hZ hown (host := "") (Or.inl (tw hw 135 rfl)) Via.refl e2 p_Fld_q_offset p_Exa_q (Or.inl (tw hw 136 rfl)) (tw hw 128 rfl) pf_0 rfl rfl (g := (mkF m 28 #[rv u, rv d, rv q, iv 0, .unset, .unset, .unset, .unset] [.int 0, .ref q, .int 0, .ref q])) rfl rfl d28
 have N3 := Fr.snoc X3 N0 ge3
 have Fw3 : Fld Z h3 q "java/math/MutableBigInteger" "offset" "I" (.int (0 : Int32)) := p_Fld_q_offset.same W3
 refine zt 31 [.int 0, .ref q] st3 ?_
 have F4 := (p_Exa_q.wr W3)
 have F5 := (p_Fld_q_intLen.other W3 (Or.inr (sn_java_math_MutableBigInteger_intLen__offset hw)))
 obtain ⟨T6, h6, X6, e6, W6, st6⟩ := putF X3 hx hZ hown (host := "") (Or.inl (tw hw 139 rfl)) Via.refl e3 F5 F4 (Or.inl (tw hw 140 rfl)) (tw hw 128 rfl) pf_0 rfl rfl (g := (mkF m 31 #[rv u, rv d, rv q, iv 0, .unset, .unset, .unset, .unset] [.int 0, .ref q])) rfl rfl d31
 have N6 := Fr.snoc X6 N3 ge3
 have Fw6 : Fld Z h6 q "java/math/MutableBigInteger" "intLen" "I" (.int (0 : Int32)) := F5.same W6
 refine zt 34 [] st6 ?_
 refine zI X6 hx d34 rfl 35 rfl ?_
 refine zY X6 hx d35 ((if0 _ _).trans (teq (by decide : ((0 : Int32) = (0 : Int32)))).1) 48 (by decide) ?_
 refine zq 49 [.null] (fun t k => XS.aconstNull X6.here hx rfl d48 k) ?_
 have F7 := (F4.wr W6)
 have F8 := ((p_Fld_q_value.other W3 (Or.inr (sn_java_math_MutableBigInteger_value__offset hw))).other W6 (Or.inr (sn_java_math_MutableBigInteger_value__intLen hw)))
 have F9 := (Fw3.other W6 (Or.inr (sn_java_math_MutableBigInteger_offset__intLen hw)))
 exact own_finR X6 hx hlk hre rfl rfl d49 e6 ⟨rfl, N6, (((Keep.refl h0 [q]).wr W3 (Or.inl (List.mem_of_getElem? (i := 0) rfl))).wr W6 (Or.inl (List.mem_of_getElem? (i := 0) rfl))), F7, F8, Fw6, F9⟩ (by decide) (by decide)
def QrmDk1 (Z : State) (u : Addr) (ua : Addr) (k : ClassId) (d : Addr) (da : Addr) (kd : ClassId) (q : Addr) (qa : Addr) (kq : ClassId) (x : Int32) (h0 : Heap) (n0 : Nat) (v : Option Value) (h : Heap) (L : List Loc) : Prop := v = some .null ∧ Fr n0 L ∧ Keep h0 h [q, qa] ∧ (Exa Z h q "java/math/MutableBigInteger") ∧ (Fld Z h q "java/math/MutableBigInteger" "value" "[I" (.ref qa)) ∧ (Fld Z h q "java/math/MutableBigInteger" "intLen" "I" (.int (1 : Int32))) ∧ (Fld Z h q "java/math/MutableBigInteger" "offset" "I" (.int (0 : Int32))) ∧ (Arv Z h qa kq .int (1 : Int32) [(.int x)] (.int (0 : Int32)))
abbrev RrmDk1 : Room := { frames := 1, cells := 0, slots := 0, locals := 26 }
theorem rmDk1 (l : Launch) (Z : State) (a0 : Array Value) (hw : ∀ d ∈ tables_1, d.before a0 Z = true) (ws : List Jvm.Cond) (u : Addr) (ua : Addr) (k : ClassId) (d : Addr) (da : Addr) (kd : ClassId) (q : Addr) (qa : Addr) (kq : ClassId) (x : Int32) (h0 : Heap) (n0 : Nat) (Z0 : n0 ≤ h0.size)  (p_Exa_u : Exa Z h0 u "java/math/MutableBigInteger") (p_Fld_u_value : Fld Z h0 u "java/math/MutableBigInteger" "value" "[I" (.ref ua)) (p_Fld_u_intLen : Fld Z h0 u "java/math/MutableBigInteger" "intLen" "I" (.int (1 : Int32))) (p_Fld_u_offset : Fld Z h0 u "java/math/MutableBigInteger" "offset" "I" (.int (0 : Int32))) (p_Arv_ua : Arv Z h0 ua k .int (1 : Int32) [(.int x)] (.int (0 : Int32))) (hz : ¬ x = (0 : Int32)) (p_Exa_d : Exa Z h0 d "java/math/MutableBigInteger") (p_Fld_d_value : Fld Z h0 d "java/math/MutableBigInteger" "value" "[I" (.ref da)) (p_Fld_d_intLen : Fld Z h0 d "java/math/MutableBigInteger" "intLen" "I" (.int (1 : Int32))) (p_Fld_d_offset : Fld Z h0 d "java/math/MutableBigInteger" "offset" "I" (.int (0 : Int32))) (p_Arv_da : Arv Z h0 da kd .int (1 : Int32) [(.int (1 : Int32))] (.int (0 : Int32))) (p_Exa_q : Exa Z h0 q "java/math/MutableBigInteger") (p_Fld_q_value : Fld Z h0 q "java/math/MutableBigInteger" "value" "[I" (.ref qa)) (p_Fld_q_intLen : Fld Z h0 q "java/math/MutableBigInteger" "intLen" "I" (.int (0 : Int32))) (p_Fld_q_offset : Fld Z h0 q "java/math/MutableBigInteger" "offset" "I" (.int (0 : Int32))) (p_Arv_qa : Arv Z h0 qa kq .int (1 : Int32) [(.int (0 : Int32))] (.int (0 : Int32))) (ge3 : n0 ≤ q) (ge4 : n0 ≤ qa) (ne6 : qa ≠ q) (nd1 : da ≠ q) (nd2 : d ≠ q) (nd3 : da ≠ qa) (nd4 : d ≠ qa) (ne2 : ua ≠ qa) (ne3 : ua ≠ q) (ne4 : u ≠ qa) (ne5 : u ≠ q) : Mf l Z Nm26 jdk_2101_method_57_code 8 (Option.some (Jvm.ClassFile.FieldType.object "java/math/MutableBigInteger")) ws RrmDk1 #[(.ref u), (.ref d), (.ref q), (.int (0 : Int32))] h0 (QrmDk1 Z u ua k d da kd q qa kq x h0 n0) := by
 refine own_entry (plainFor_of_name pn_java_math_MutableBigInteger) #[rv u, rv d, rv q, iv 0, .unset, .unset, .unset, .unset] (fun _ => rfl) fun p e s m below meth c s₁ hx hby hml hown hnm hlk hre hZ X0 e0 => ?_
 have N0 := Fr.nil n0
 obtain ⟨d0, d1, d4, d17, d18, d21, -, -, -, -, -, -, -, -, -, -, d50, d51, d52, d55, d57, d59, d89, d91, d94, d95, d98, d99, d100, d101, d102, d105, d106, d107, d108, d111, d112, d125, d126, d127, d128, d131, d132, d135, d136, d139, d140, d141, d144, d145, d148, d149, d150, d153, d155, d156, d182, d183, -⟩ := D_26 hby
 by_cases cy1 : x = (1 : Int32)
 ·subst cy1
  refine zR X0 hx d0 rfl rfl 1 rfl ?_
  refine zP X0 hx hZ hown (tw hw 139 rfl) e0 p_Fld_d_intLen d1 4 rfl fun T2 X2 e2 => ?_
  refine zY X2 hx d4 ((if0 _ _).trans (feq (by decide : ¬ ((1 : Int32) = (0 : Int32)))).2) 17 (by decide) ?_
  refine zR X2 hx d17 rfl rfl 18 rfl ?_
  refine zP X2 hx hZ hown (tw hw 139 rfl) e2 p_Fld_u_intLen d18 21 rfl fun T3 X3 e3 => ?_
  refine zY X3 hx d21 ((if0 _ _).trans (feq (by decide : ¬ ((1 : Int32) = (0 : Int32)))).2) 50 (by decide) ?_
  refine zR X3 hx d50 rfl rfl 51 rfl ?_
  refine zR X3 hx d51 rfl rfl 52 rfl ?_
  refine zCV X3 hx hZ hml hown (tw hw 155 rfl) (tw hw 156 rfl) (tw hw 129 rfl) (tw hw 159 rfl) (tw hw 158 rfl) (tw hw 157 rfl) (rmCmp11a l Z a0 hw [] u ua k d da kd h0 n0 Z0 p_Exa_u p_Fld_u_value p_Fld_u_intLen p_Fld_u_offset p_Arv_ua p_Exa_d p_Fld_d_value p_Fld_d_intLen p_Fld_d_offset p_Arv_da) 0 (by decide) u [] rfl rfl (lenOf pd_1 rfl) rfl (Nat.le_of_eq rfl) e3 p_Exa_u d52 55 rfl fun T4 L4 v4 X4 ⟨Lc4, hQ4, l4⟩ => ?_
  obtain ⟨rfl, Nq4, eh4⟩ := hQ4
  have N4 := own_frApp N0 Nq4 l4
  refine zx [.int 0] rfl ?_
  refine zl 57 _ [] (fun t k => XS.istore X4.here hx rfl d55 rfl (l' := #[rv u, rv d, rv q, iv 0, iv 0, .unset, .unset, .unset]) rfl k) ?_
  refine zI2 X4 hx d57 rfl 59 rfl ?_
  refine zY X4 hx d59 ((if0 _ _).trans (flt (by decide : ¬ ((0 : Int32) < (0 : Int32)))).2.1) 89 (by decide) ?_
  refine zI2 X4 hx d89 rfl 91 rfl ?_
  refine zN X4 hx d91 ((if0 _ _).trans (teq (by decide : ((0 : Int32) = (0 : Int32)))).2) 94 rfl ?_
  refine zR X4 hx d94 rfl rfl 95 rfl ?_
  refine zP X4 hx hZ hown (tw hw 137 rfl) eh4 p_Fld_q_value d95 98 rfl fun T5 X5 e5 => ?_
  refine zK X5 hx d98 0 rfl 99 rfl ?_
  refine zR X5 hx d99 rfl rfl 100 rfl ?_
  refine zK X5 hx d100 1 rfl 101 rfl ?_
  refine zq 102 [.int 1, .ref q, .int 1, .int 0, .ref qa] (fun t k => XS.dupX1 X5.here hx rfl d101 rfl rfl rfl k) ?_
  obtain ⟨T6, h6, X6, e6, W6, st6⟩ := putF X5 hx hZ hown (host := "") (Or.inl (tw hw 139 rfl)) Via.refl e5 p_Fld_q_intLen p_Exa_q (Or.inl (tw hw 140 rfl)) (tw hw 128 rfl) pf_0 rfl rfl (g := (mkF m 102 #[rv u, rv d, rv q, iv 0, iv 0, .unset, .unset, .unset] [.int 1, .ref q, .int 1, .int 0, .ref qa])) rfl rfl d102
  have N6 := Fr.snoc X6 N4 ge3
  have Fw6 : Fld Z h6 q "java/math/MutableBigInteger" "intLen" "I" (.int (1 : Int32)) := p_Fld_q_intLen.same W6
  refine zt 105 [.int 1, .int 0, .ref qa] st6 ?_
  have F7 := (p_Arv_qa.other W6 ne6)
  obtain ⟨cl8, Ar8, q8, S8, M8, H8, Gx8⟩ := id F7
  obtain ⟨T9, h9, X9, e9, W9, st9⟩ := stI X6 hx hZ e6 Ar8 (j := (0 : Int32)) (inb_of S8 ⟨by decide, by decide⟩) (g := (mkF m 105 #[rv u, rv d, rv q, iv 0, iv 0, .unset, .unset, .unset] [.int 1, .int 0, .ref qa])) rfl rfl d105
  have N9 := Fr.snoc X9 N6 ge4
  have V9 : Arv Z h9 qa kq .int (1 : Int32) [(.int (1 : Int32))] (.int (0 : Int32)) := Arv.set Ar8 q8 S8 M8 H8 Gx8 rfl W9 0 rfl (Nat.le_of_ble_eq_true rfl)
  refine zt 106 [] st9 ?_
  refine zR X9 hx d106 rfl rfl 107 rfl ?_
  refine zK X9 hx d107 0 rfl 108 rfl ?_
  have F10 := ((p_Exa_q.wr W6).wr W9)
  have F11 := ((p_Fld_q_offset.other W6 (Or.inr (sn_java_math_MutableBigInteger_offset__intLen hw))).other W9 (Or.inl (Ne.symm ne6)))
  obtain ⟨T12, h12, X12, e12, W12, st12⟩ := putF X9 hx hZ hown (host := "") (Or.inl (tw hw 135 rfl)) Via.refl e9 F11 F10 (Or.inl (tw hw 136 rfl)) (tw hw 128 rfl) pf_0 rfl rfl (g := (mkF m 108 #[rv u, rv d, rv q, iv 0, iv 0, .unset, .unset, .unset] [.int 0, .ref q])) rfl rfl d108
  have N12 := Fr.snoc X12 N9 ge3
  have Fw12 : Fld Z h12 q "java/math/MutableBigInteger" "offset" "I" (.int (0 : Int32)) := F11.same W12
  refine zt 111 [] st12 ?_
  refine zI X12 hx d111 rfl 112 rfl ?_
  refine zY X12 hx d112 ((if0 _ _).trans (teq (by decide : ((0 : Int32) = (0 : Int32)))).1) 125 (by decide) ?_
  refine zq 126 [.null] (fun t k => XS.aconstNull X12.here hx rfl d125 k) ?_
  have F13 := (F10.wr W12)
  have F14 := (((p_Fld_q_value.other W6 (Or.inr (sn_java_math_MutableBigInteger_value__intLen hw))).other W9 (Or.inl (Ne.symm ne6))).other W12 (Or.inr (sn_java_math_MutableBigInteger_value__offset hw)))
  have F15 := ((Fw6.other W9 (Or.inl (Ne.symm ne6))).other W12 (Or.inr (sn_java_math_MutableBigInteger_intLen__offset hw)))
  have F16 := (V9.other W12 ne6)
  exact own_finR X12 hx hlk hre rfl rfl d126 e12 ⟨rfl, N12, ((((Keep.refl h0 [q, qa]).wr W6 (Or.inl (List.mem_of_getElem? (i := 0) rfl))).wr W9 (Or.inl (List.mem_of_getElem? (i := 1) rfl))).wr W12 (Or.inl (List.mem_of_getElem? (i := 0) rfl))), F13, F14, F15, Fw12, F16⟩ (by decide) (by decide)
 ·refine zR X0 hx d0 rfl rfl 1 rfl ?_
  refine zP X0 hx hZ hown (tw hw 139 rfl) e0 p_Fld_d_intLen d1 4 rfl fun T17 X17 e17 => ?_
  refine zY X17 hx d4 ((if0 _ _).trans (feq (by decide : ¬ ((1 : Int32) = (0 : Int32)))).2) 17 (by decide) ?_
  refine zR X17 hx d17 rfl rfl 18 rfl ?_
  refine zP X17 hx hZ hown (tw hw 139 rfl) e17 p_Fld_u_intLen d18 21 rfl fun T18 X18 e18 => ?_
  refine zY X18 hx d21 ((if0 _ _).trans (feq (by decide : ¬ ((1 : Int32) = (0 : Int32)))).2) 50 (by decide) ?_
  refine zR X18 hx d50 rfl rfl 51 rfl ?_
  refine zR X18 hx d51 rfl rfl 52 rfl ?_
  refine zCV X18 hx hZ hml hown (tw hw 155 rfl) (tw hw 156 rfl) (tw hw 129 rfl) (tw hw 159 rfl) (tw hw 158 rfl) (tw hw 157 rfl) (rmCmp11b l Z a0 hw [] u ua k d da kd x h0 n0 Z0 p_Exa_u p_Fld_u_value p_Fld_u_intLen p_Fld_u_offset p_Arv_ua p_Exa_d p_Fld_d_value p_Fld_d_intLen p_Fld_d_offset p_Arv_da hz cy1) 0 (by decide) u [] rfl rfl (lenOf pd_1 rfl) rfl (Nat.le_of_eq rfl) e18 p_Exa_u d52 55 rfl fun T19 L19 v19 X19 ⟨Lc19, hQ19, l19⟩ => ?_
  obtain ⟨rfl, Nq19, eh19⟩ := hQ19
  have N19 := own_frApp N0 Nq19 l19
  refine zx [.int 1] rfl ?_
  refine zl 57 _ [] (fun t k => XS.istore X19.here hx rfl d55 rfl (l' := #[rv u, rv d, rv q, iv 0, iv 1, .unset, .unset, .unset]) rfl k) ?_
  refine zI2 X19 hx d57 rfl 59 rfl ?_
  refine zY X19 hx d59 ((if0 _ _).trans (flt (by decide : ¬ ((1 : Int32) < (0 : Int32)))).2.1) 89 (by decide) ?_
  refine zI2 X19 hx d89 rfl 91 rfl ?_
  refine zY X19 hx d91 ((if0 _ _).trans (feq (by decide : ¬ ((1 : Int32) = (0 : Int32)))).2) 127 (by decide) ?_
  refine zR X19 hx d127 rfl rfl 128 rfl ?_
  refine zCV X19 hx hZ hml hown (tw hw 241 rfl) (tw hw 242 rfl) (tw hw 129 rfl) (tw hw 245 rfl) (tw hw 244 rfl) (tw hw 243 rfl) (rmClr l Z a0 hw [] q qa kq h0 n0 Z0 p_Exa_q p_Fld_q_value p_Fld_q_intLen p_Fld_q_offset p_Arv_qa ge3 ge4 ne6) 0 (by decide) q [] rfl rfl (lenOf pd_2 rfl) rfl (Nat.le_of_eq rfl) eh19 p_Exa_q d128 131 rfl fun T20 L20 v20 X20 ⟨Lc20, hQ20, l20⟩ => ?_
  obtain ⟨rfl, Nq20, K20, f20_0, f20_1, f20_2, f20_3, f20_4⟩ := hQ20
  have N20 := own_frApp N19 Nq20 l20
  refine zx [] rfl ?_
  refine zR X20 hx d131 rfl rfl 132 rfl ?_
  have F21 := (p_Fld_d_intLen.keep K20 (ninS nd2 (ninS nd4 nin0)))
  refine zP X20 hx hZ hown (tw hw 139 rfl) rfl F21 d132 135 rfl fun T22 X22 e22 => ?_
  refine zK X22 hx d135 1 rfl 136 rfl ?_
  refine zCN X22 hx d136 (teq (by decide : ((1 : Int32) = (1 : Int32)))).2 139 rfl ?_
  refine zR X22 hx d139 rfl rfl 140 rfl ?_
  refine zR X22 hx d140 rfl rfl 141 rfl ?_
  have F23 := (p_Fld_d_value.keep K20 (ninS nd2 (ninS nd4 nin0)))
  refine zP X22 hx hZ hown (tw hw 137 rfl) e22 F23 d141 144 rfl fun T24 X24 e24 => ?_
  refine zR X24 hx d144 rfl rfl 145 rfl ?_
  have F25 := (p_Fld_d_offset.keep K20 (ninS nd2 (ninS nd4 nin0)))
  refine zP X24 hx hZ hown (tw hw 135 rfl) e24 F25 d145 148 rfl fun T26 X26 e26 => ?_
  have F27 := (p_Arv_da.keep K20 (ninS nd1 (ninS nd3 nin0)))
  refine zIa X26 hx hZ e26 F27 (by decide) rfl d148 149 rfl ?_
  refine zR X26 hx d149 rfl rfl 150 rfl ?_
  have F29 := (p_Exa_u.keep K20)
  have F30 := (p_Fld_u_value.keep K20 (ninS ne5 (ninS ne4 nin0)))
  have F31 := (p_Fld_u_intLen.keep K20 (ninS ne5 (ninS ne4 nin0)))
  have F32 := (p_Fld_u_offset.keep K20 (ninS ne5 (ninS ne4 nin0)))
  have F33 := (p_Arv_ua.keep K20 (ninS ne3 (ninS ne2 nin0)))
  refine zCV X26 hx hZ hml hown (tw hw 246 rfl) (tw hw 247 rfl) (tw hw 129 rfl) (tw hw 250 rfl) (tw hw 249 rfl) (tw hw 248 rfl) (rmDow1 l Z a0 hw [] u ua k q qa kq x T20.heap n0 (Nat.le_trans Z0 K20.1) F29 F30 F31 F32 F33 f20_0 f20_1 f20_2 f20_3 f20_4 hz ge3 ge4 ne6) 0 (by decide) u [] rfl rfl (lenOf pd_13 rfl) rfl (Nat.le_of_eq rfl) e26 F29 d150 153 rfl fun T34 L34 v34 X34 ⟨Lc34, hQ34, l34⟩ => ?_
  obtain ⟨rr_34, rfl, Nq34, K34, f34_0, f34_1, f34_2, f34_3, f34_4⟩ := hQ34
  have N34 := own_frApp N20 Nq34 l34
  refine zx [.int rr_34] rfl ?_
  refine zl 155 _ [] (fun t k => XS.istore X34.here hx rfl d153 rfl (l' := #[rv u, rv d, rv q, iv 0, iv 1, iv rr_34, .unset, .unset]) rfl k) ?_
  refine zI X34 hx d155 rfl 156 rfl ?_
  refine zY X34 hx d156 ((if0 _ _).trans (teq (by decide : ((0 : Int32) = (0 : Int32)))).1) 182 (by decide) ?_
  refine zq 183 [.null] (fun t k => XS.aconstNull X34.here hx rfl d182 k) ?_
  exact own_finR X34 hx hlk hre rfl rfl d183 rfl ⟨rfl, N34, (((Keep.refl h0 [q, qa]).trans K20 (allS (Or.inl (List.mem_of_getElem? (i := 0) rfl)) (allS (Or.inl (List.mem_of_getElem? (i := 1) rfl)) all0))).trans K34 (allS (Or.inl (List.mem_of_getElem? (i := 0) rfl)) (allS (Or.inl (List.mem_of_getElem? (i := 1) rfl)) all0))), f34_0, f34_1, f34_2, f34_3, f34_4⟩ (by decide) (by decide)
def QrmDk2 (Z : State) (u : Addr) (ua : Addr) (k : ClassId) (d : Addr) (da : Addr) (kd : ClassId) (q : Addr) (qa : Addr) (kq : ClassId) (x : Int32) (y : Int32) (h0 : Heap) (n0 : Nat) (v : Option Value) (h : Heap) (L : List Loc) : Prop := ∃ ra : Addr, ∃ kr : ClassId, v = some .null ∧ Fr n0 L ∧ Keep h0 h [q, qa] ∧ (Exa Z h q "java/math/MutableBigInteger") ∧ (Fld Z h q "java/math/MutableBigInteger" "value" "[I" (.ref ra)) ∧ (Fld Z h q "java/math/MutableBigInteger" "intLen" "I" (.int (2 : Int32))) ∧ (Fld Z h q "java/math/MutableBigInteger" "offset" "I" (.int (0 : Int32))) ∧ (Arv Z h ra kr .int (2 : Int32) [(.int x), (.int y)] (.int (0 : Int32))) ∧ (Exa Z h ra "[I") ∧ (h0.size ≤ ra)
abbrev RrmDk2 : Room := { frames := 2, cells := 1, slots := 2, locals := 41 }
theorem rmDk2 (l : Launch) (Z : State) (a0 : Array Value) (hw : ∀ d ∈ tables_1, d.before a0 Z = true) (ws : List Jvm.Cond) (u : Addr) (ua : Addr) (k : ClassId) (d : Addr) (da : Addr) (kd : ClassId) (q : Addr) (qa : Addr) (kq : ClassId) (x : Int32) (y : Int32) (h0 : Heap) (n0 : Nat) (Z0 : n0 ≤ h0.size)  (p_Exa_u : Exa Z h0 u "java/math/MutableBigInteger") (p_Fld_u_value : Fld Z h0 u "java/math/MutableBigInteger" "value" "[I" (.ref ua)) (p_Fld_u_intLen : Fld Z h0 u "java/math/MutableBigInteger" "intLen" "I" (.int (2 : Int32))) (p_Fld_u_offset : Fld Z h0 u "java/math/MutableBigInteger" "offset" "I" (.int (0 : Int32))) (p_Arv_ua : Arv Z h0 ua k .int (2 : Int32) [(.int x), (.int y)] (.int (0 : Int32))) (hz : ¬ x = (0 : Int32)) (p_Exa_d : Exa Z h0 d "java/math/MutableBigInteger") (p_Fld_d_value : Fld Z h0 d "java/math/MutableBigInteger" "value" "[I" (.ref da)) (p_Fld_d_intLen : Fld Z h0 d "java/math/MutableBigInteger" "intLen" "I" (.int (1 : Int32))) (p_Fld_d_offset : Fld Z h0 d "java/math/MutableBigInteger" "offset" "I" (.int (0 : Int32))) (p_Arv_da : Arv Z h0 da kd .int (1 : Int32) [(.int (1 : Int32))] (.int (0 : Int32))) (p_Exa_q : Exa Z h0 q "java/math/MutableBigInteger") (p_Fld_q_value : Fld Z h0 q "java/math/MutableBigInteger" "value" "[I" (.ref qa)) (p_Fld_q_intLen : Fld Z h0 q "java/math/MutableBigInteger" "intLen" "I" (.int (0 : Int32))) (p_Fld_q_offset : Fld Z h0 q "java/math/MutableBigInteger" "offset" "I" (.int (0 : Int32))) (p_Arv_qa : Arv Z h0 qa kq .int (1 : Int32) [(.int (0 : Int32))] (.int (0 : Int32))) (ge3 : n0 ≤ q) (ge4 : n0 ≤ qa) (ne6 : qa ≠ q) (nd1 : da ≠ q) (nd2 : d ≠ q) (nd3 : da ≠ qa) (nd4 : d ≠ qa) (ne2 : ua ≠ qa) (ne3 : ua ≠ q) (ne4 : u ≠ qa) (ne5 : u ≠ q) : Mf l Z Nm26 jdk_2101_method_57_code 8 (Option.some (Jvm.ClassFile.FieldType.object "java/math/MutableBigInteger")) ws RrmDk2 #[(.ref u), (.ref d), (.ref q), (.int (0 : Int32))] h0 (QrmDk2 Z u ua k d da kd q qa kq x y h0 n0) := by
 refine own_entry (plainFor_of_name pn_java_math_MutableBigInteger) #[rv u, rv d, rv q, iv 0, .unset, .unset, .unset, .unset] (fun _ => rfl) fun p e s m below meth c s₁ hx hby hml hown hnm hlk hre hZ X0 e0 => ?_
 have N0 := Fr.nil n0
 obtain ⟨d0, d1, d4, d17, d18, d21, -, -, -, -, -, -, -, -, -, -, d50, d51, d52, d55, d57, d59, d89, d91, -, -, -, -, -, -, -, -, -, -, -, -, -, -, -, d127, d128, d131, d132, d135, d136, d139, d140, d141, d144, d145, d148, d149, d150, d153, d155, d156, d182, d183, -⟩ := D_26 hby
 refine zR X0 hx d0 rfl rfl 1 rfl ?_
 refine zP X0 hx hZ hown (tw hw 139 rfl) e0 p_Fld_d_intLen d1 4 rfl fun T1 X1 e1 => ?_
 refine zY X1 hx d4 ((if0 _ _).trans (feq (by decide : ¬ ((1 : Int32) = (0 : Int32)))).2) 17 (by decide) ?_
 refine zR X1 hx d17 rfl rfl 18 rfl ?_
 refine zP X1 hx hZ hown (tw hw 139 rfl) e1 p_Fld_u_intLen d18 21 rfl fun T2 X2 e2 => ?_
 refine zY X2 hx d21 ((if0 _ _).trans (feq (by decide : ¬ ((2 : Int32) = (0 : Int32)))).2) 50 (by decide) ?_
 refine zR X2 hx d50 rfl rfl 51 rfl ?_
 refine zR X2 hx d51 rfl rfl 52 rfl ?_
 refine zCV X2 hx hZ hml hown (tw hw 155 rfl) (tw hw 156 rfl) (tw hw 129 rfl) (tw hw 159 rfl) (tw hw 158 rfl) (tw hw 157 rfl) (rmCmp21 l Z a0 hw [] u ua d da h0 n0 Z0 p_Exa_u p_Fld_u_value p_Fld_u_intLen p_Fld_u_offset p_Exa_d p_Fld_d_value p_Fld_d_intLen p_Fld_d_offset) 0 (by decide) u [] rfl rfl (lenOf pd_1 rfl) rfl (Nat.le_of_eq rfl) e2 p_Exa_u d52 55 rfl fun T3 L3 v3 X3 ⟨Lc3, hQ3, l3⟩ => ?_
 obtain ⟨rfl, Nq3, eh3⟩ := hQ3
 have N3 := own_frApp N0 Nq3 l3
 refine zx [.int 1] rfl ?_
 refine zl 57 _ [] (fun t k => XS.istore X3.here hx rfl d55 rfl (l' := #[rv u, rv d, rv q, iv 0, iv 1, .unset, .unset, .unset]) rfl k) ?_
 refine zI2 X3 hx d57 rfl 59 rfl ?_
 refine zY X3 hx d59 ((if0 _ _).trans (flt (by decide : ¬ ((1 : Int32) < (0 : Int32)))).2.1) 89 (by decide) ?_
 refine zI2 X3 hx d89 rfl 91 rfl ?_
 refine zY X3 hx d91 ((if0 _ _).trans (feq (by decide : ¬ ((1 : Int32) = (0 : Int32)))).2) 127 (by decide) ?_
 refine zR X3 hx d127 rfl rfl 128 rfl ?_
 refine zCV X3 hx hZ hml hown (tw hw 241 rfl) (tw hw 242 rfl) (tw hw 129 rfl) (tw hw 245 rfl) (tw hw 244 rfl) (tw hw 243 rfl) (rmClr l Z a0 hw [] q qa kq h0 n0 Z0 p_Exa_q p_Fld_q_value p_Fld_q_intLen p_Fld_q_offset p_Arv_qa ge3 ge4 ne6) 0 (by decide) q [] rfl rfl (lenOf pd_2 rfl) rfl (Nat.le_of_eq rfl) eh3 p_Exa_q d128 131 rfl fun T4 L4 v4 X4 ⟨Lc4, hQ4, l4⟩ => ?_
 obtain ⟨rfl, Nq4, K4, f4_0, f4_1, f4_2, f4_3, f4_4⟩ := hQ4
 have N4 := own_frApp N3 Nq4 l4
 refine zx [] rfl ?_
 refine zR X4 hx d131 rfl rfl 132 rfl ?_
 have F5 := (p_Fld_d_intLen.keep K4 (ninS nd2 (ninS nd4 nin0)))
 refine zP X4 hx hZ hown (tw hw 139 rfl) rfl F5 d132 135 rfl fun T6 X6 e6 => ?_
 refine zK X6 hx d135 1 rfl 136 rfl ?_
 refine zCN X6 hx d136 (teq (by decide : ((1 : Int32) = (1 : Int32)))).2 139 rfl ?_
 refine zR X6 hx d139 rfl rfl 140 rfl ?_
 refine zR X6 hx d140 rfl rfl 141 rfl ?_
 have F7 := (p_Fld_d_value.keep K4 (ninS nd2 (ninS nd4 nin0)))
 refine zP X6 hx hZ hown (tw hw 137 rfl) e6 F7 d141 144 rfl fun T8 X8 e8 => ?_
 refine zR X8 hx d144 rfl rfl 145 rfl ?_
 have F9 := (p_Fld_d_offset.keep K4 (ninS nd2 (ninS nd4 nin0)))
 refine zP X8 hx hZ hown (tw hw 135 rfl) e8 F9 d145 148 rfl fun T10 X10 e10 => ?_
 have F11 := (p_Arv_da.keep K4 (ninS nd1 (ninS nd3 nin0)))
 refine zIa X10 hx hZ e10 F11 (by decide) rfl d148 149 rfl ?_
 refine zR X10 hx d149 rfl rfl 150 rfl ?_
 have F13 := (p_Exa_u.keep K4)
 have F14 := (p_Fld_u_value.keep K4 (ninS ne5 (ninS ne4 nin0)))
 have F15 := (p_Fld_u_intLen.keep K4 (ninS ne5 (ninS ne4 nin0)))
 have F16 := (p_Fld_u_offset.keep K4 (ninS ne5 (ninS ne4 nin0)))
 have F17 := (p_Arv_ua.keep K4 (ninS ne3 (ninS ne2 nin0)))
 refine zCV X10 hx hZ hml hown (tw hw 246 rfl) (tw hw 247 rfl) (tw hw 129 rfl) (tw hw 250 rfl) (tw hw 249 rfl) (tw hw 248 rfl) (rmDow2 l Z a0 hw [] u ua k q qa kq x y T4.heap n0 (Nat.le_trans Z0 K4.1) F13 F14 F15 F16 F17 f4_0 f4_1 f4_2 f4_3 f4_4 hz ge3 ne3 ne5) 0 (by decide) u [] rfl rfl (lenOf pd_13 rfl) rfl (Nat.le_of_eq rfl) e10 F13 d150 153 rfl fun T18 L18 v18 X18 ⟨Lc18, hQ18, l18⟩ => ?_
 have X18 := own_reX X18 (rfl : _ = 1) (rfl : _ = 2)
 obtain ⟨rr_18, ra_18, kr_18, rfl, Nq18, K18, f18_0, f18_1, f18_2, f18_3, f18_4, f18_5, f18_6⟩ := hQ18
 have N18 := own_frApp N4 Nq18 l18
 refine zx [.int rr_18] rfl ?_
 refine zl 155 _ [] (fun t k => XS.istore X18.here hx rfl d153 rfl (l' := #[rv u, rv d, rv q, iv 0, iv 1, iv rr_18, .unset, .unset]) rfl k) ?_
 refine zI X18 hx d155 rfl 156 rfl ?_
 refine zY X18 hx d156 ((if0 _ _).trans (teq (by decide : ((0 : Int32) = (0 : Int32)))).1) 182 (by decide) ?_
 refine zq 183 [.null] (fun t k => XS.aconstNull X18.here hx rfl d182 k) ?_
 exact own_finR X18 hx hlk hre rfl rfl d183 rfl ⟨ra_18, kr_18, rfl, N18, (((Keep.refl h0 [q, qa]).trans K4 (allS (Or.inl (List.mem_of_getElem? (i := 0) rfl)) (allS (Or.inl (List.mem_of_getElem? (i := 1) rfl)) all0))).trans K18 (allS (Or.inl (List.mem_of_getElem? (i := 0) rfl)) all0)), f18_0, f18_1, f18_2, f18_3, f18_4, f18_5, (Nat.le_trans K4.1 f18_6)⟩ (by decide) (by decide)
def QrmBdk (Z : State) (a : Addr) (b : Addr) (vv : Int) (h0 : Heap) (n0 : Nat) (v : Option Value) (h : Heap) (L : List Loc) : Prop := ∃ g : Addr, v = some (.ref g) ∧ Fr n0 L ∧ Keep h0 h [] ∧ (BI Z h g vv)
abbrev RrmBdk : Room := { frames := 4, cells := 6, slots := 18, locals := 60 }
theorem rmBdk (l : Launch) (Z : State) (a0 : Array Value) (hw : ∀ d ∈ tables_1, d.before a0 Z = true) (ws : List Jvm.Cond) (a : Addr) (b : Addr) (vv : Int) (h0 : Heap) (n0 : Nat) (Z0 : n0 ≤ h0.size) (zA oA pA nA : Addr) (kP kN : ClassId) (vP vN : List Value) (G0 : Gl Z zA oA pA nA kP kN vP vN) (X00 : Old Z n0 h0) (p_BI_a : BI Z h0 a vv) (p_BI_b : BI Z h0 b (1 : Int)) : Mf l Z Nm27 jdk_2097_method_62_code 5 (Option.some (Jvm.ClassFile.FieldType.object "java/math/BigInteger")) ws RrmBdk #[(.ref a), (.ref b)] h0 (QrmBdk Z a b vv h0 n0) := by
 refine own_entry (plainFor_of_name pn_java_math_BigInteger) #[rv a, rv b, .unset, .unset, .unset] (fun _ => rfl) fun p e s m below meth c s₁ hx hby hml hown hnm hlk hre hZ X0 e0 => ?_
 have N0 := Fr.nil n0
 obtain ⟨d0, d3, d4, d7, d8, d11, d12, d13, d16, d19, d20, d23, d24, d25, d28, d31, d33, d34, d36, d37, d38, d41, d42, d43, d44, d47, d48, d51, d52, d55, -⟩ := D_27 hby
 obtain ⟨SZ, BZ, SO, BO, SP, AP, hcP, SN, AN, hcN⟩ := id G0
 obtain ⟨m1, km1, Eb1, Fm1, Em1, Fs1, Ar1⟩ := BI.one p_BI_b
 rcases id p_BI_a with ⟨m2, km2, Eb2, Fm2, Em2, (⟨Fs2, Ar2, hv2⟩ | ⟨w2, hn2, Ar2, (⟨Fs2, hv2⟩ | ⟨Fs2, hv2⟩)⟩ | ⟨w2, u2, hn2, Ar2, (⟨Fs2, hv2⟩ | ⟨Fs2, hv2⟩)⟩)⟩
 ·obtain ⟨T3, h3, X3, e3, E3, A3, D3, -, st3⟩ := newO X0 hx hZ hown (tw hw 127 rfl) (tw hw 128 rfl) (tw hw 129 rfl) e0 (g := (mkF m 0 #[rv a, rv b, .unset, .unset, .unset] [])) rfl d0 (by decide) (by decide)
  obtain ⟨b3, g3⟩ : ∃ z, z = h0.size := ⟨_, rfl⟩
  rw [← g3] at A3 D3 st3
  have X3 := own_reX X3 (rfl : _ = 1) (rfl : _ = 3)
  refine zt 3 [.ref b3] st3 ?_
  refine zD X3 hx d3 rfl 4 rfl ?_
  refine zCI X3 hx hZ hml rfl rfl hown (tw hw 130 rfl) (tw hw 131 rfl) (tw hw 129 rfl) (tw hw 133 rfl) (rmMi0 l Z a0 hw [] b3 h3 n0 (Nat.le_trans Z0 E3.1) A3 (D3 (Or.inl (tw hw 138 rfl)) pf_1) (D3 (Or.inl (tw hw 140 rfl)) pf_0) (D3 (Or.inl (tw hw 136 rfl)) pf_0) (Nat.le_trans (Nat.le_trans Z0 (Nat.le_refl _)) (Nat.le_of_eq g3.symm))) 1 (by decide) b3 [.ref b3] rfl rfl (lenOf pd_2 rfl) rfl (Nat.le_of_eq rfl) e3 d4 7 rfl fun T4 L4 v4 X4 ⟨Lc4, hQ4, l4⟩ => ?_
  have X4 := own_reX X4 (rfl : _ = 2) (rfl : _ = 4)
  obtain ⟨ra_4, kr_4, rfl, Nq4, K4, f4_0, f4_1, f4_2, f4_3, f4_4, f4_5, f4_6⟩ := hQ4
  have N4 := own_frApp N0 Nq4 l4
  refine zx [.ref b3] rfl ?_
  have K5 : Keep h0 T4.heap [] := (((Keep.refl h0 []).ext E3).trans K4 (allS (Or.inr (Nat.le_trans (Nat.le_refl _) (Nat.le_of_eq g3.symm))) all0))
  refine zl 8 _ [] (fun t k => XS.astoreN X4.here hx rfl d7 rfl rfl (l' := #[rv a, rv b, rv b3, .unset, .unset]) rfl k) ?_
  obtain ⟨T6, h6, X6, e6, E6, A6, D6, -, st6⟩ := newO X4 hx hZ hown (tw hw 127 rfl) (tw hw 128 rfl) (tw hw 129 rfl) rfl (g := (mkF m 8 #[rv a, rv b, rv b3, .unset, .unset] [])) rfl d8 (by decide) (by decide)
  obtain ⟨b6, g6⟩ : ∃ z, z = T4.heap.size := ⟨_, rfl⟩
  rw [← g6] at A6 D6 st6
  have X6 := own_reX X6 (rfl : _ = 3) (rfl : _ = 7)
  refine zt 11 [.ref b6] st6 ?_
  refine zD X6 hx d11 rfl 12 rfl ?_
  refine zR X6 hx d12 rfl rfl 13 rfl ?_
  have F7 := ((Fm2.keep K5 nin0).ext E6)
  refine zP X6 hx hZ hown (tw hw 49 rfl) e6 F7 d13 16 rfl fun T8 X8 e8 => ?_
  have F9 := ((Ar2.keep K5 nin0).ext E6)
  refine zCI X8 hx hZ hml rfl rfl hown (tw hw 141 rfl) (tw hw 142 rfl) (tw hw 129 rfl) (tw hw 143 rfl) (rmMiA0 l Z a0 hw [] b6 m2 km2 h6 n0 (Nat.le_trans Z0 (Nat.le_trans K5.1 E6.1)) A6 (D6 (Or.inl (tw hw 138 rfl)) pf_1) (D6 (Or.inl (tw hw 140 rfl)) pf_0) (D6 (Or.inl (tw hw 136 rfl)) pf_0) (Nat.le_trans (Nat.le_trans Z0 K5.1) (Nat.le_of_eq g6.symm)) F9 (Nat.ne_of_lt (Nat.lt_of_lt_of_le (Nat.lt_of_lt_of_le Em2.lt K5.1) (Nat.le_of_eq g6.symm)))) 1 (by decide) b6 [.ref b6] rfl rfl (lenOf pd_14 rfl) rfl (Nat.le_of_eq rfl) e8 d16 19 rfl fun T10 L10 v10 X10 ⟨Lc10, hQ10, l10⟩ => ?_
  obtain ⟨rfl, Nq10, K10, f10_0, f10_1, f10_2, f10_3⟩ := hQ10
  have N10 := own_frApp N4 Nq10 l10
  refine zx [.ref b6] rfl ?_
  have K11 : Keep T4.heap T10.heap [] := (((Keep.refl T4.heap []).ext E6).trans K10 (allS (Or.inr (Nat.le_trans (Nat.le_refl _) (Nat.le_of_eq g6.symm))) all0))
  refine zl 20 _ [] (fun t k => XS.astoreN X10.here hx rfl d19 rfl rfl (l' := #[rv a, rv b, rv b3, rv b6, .unset]) rfl k) ?_
  obtain ⟨T12, h12, X12, e12, E12, A12, D12, -, st12⟩ := newO X10 hx hZ hown (tw hw 127 rfl) (tw hw 128 rfl) (tw hw 129 rfl) rfl (g := (mkF m 20 #[rv a, rv b, rv b3, rv b6, .unset] [])) rfl d20 (by decide) (by decide)
  obtain ⟨b12, g12⟩ : ∃ z, z = T10.heap.size := ⟨_, rfl⟩
  rw [← g12] at A12 D12 st12
  have X12 := own_reX X12 (rfl : _ = 4) (rfl : _ = 10)
  refine zt 23 [.ref b12] st12 ?_
  refine zD X12 hx d23 rfl 24 rfl ?_
  refine zR X12 hx d24 rfl rfl 25 rfl ?_
  have F13 := (((Fm1.keep K5 nin0).keep K11 nin0).ext E12)
  refine zP X12 hx hZ hown (tw hw 49 rfl) e12 F13 d25 28 rfl fun T14 X14 e14 => ?_
  have F15 := (((Ar1.keep K5 nin0).keep K11 nin0).ext E12)
  refine zCI X14 hx hZ hml rfl rfl hown (tw hw 141 rfl) (tw hw 142 rfl) (tw hw 129 rfl) (tw hw 143 rfl) (rmMiA1 l Z a0 hw [] b12 m1 km1 (1 : Int32) h12 n0 (Nat.le_trans Z0 (Nat.le_trans (Nat.le_trans K5.1 K11.1) E12.1)) A12 (D12 (Or.inl (tw hw 138 rfl)) pf_1) (D12 (Or.inl (tw hw 140 rfl)) pf_0) (D12 (Or.inl (tw hw 136 rfl)) pf_0) (Nat.le_trans (Nat.le_trans Z0 (Nat.le_trans K5.1 K11.1)) (Nat.le_of_eq g12.symm)) F15 (Nat.ne_of_lt (Nat.lt_of_lt_of_le (Nat.lt_of_lt_of_le Em1.lt (Nat.le_trans K5.1 K11.1)) (Nat.le_of_eq g12.symm)))) 1 (by decide) b12 [.ref b12] rfl rfl (lenOf pd_14 rfl) rfl (Nat.le_of_eq rfl) e14 d28 31 rfl fun T16 L16 v16 X16 ⟨Lc16, hQ16, l16⟩ => ?_
  obtain ⟨rfl, Nq16, K16, f16_0, f16_1, f16_2, f16_3⟩ := hQ16
  have N16 := own_frApp N10 Nq16 l16
  refine zx [.ref b12] rfl ?_
  have K17 : Keep T10.heap T16.heap [] := (((Keep.refl T10.heap []).ext E12).trans K16 (allS (Or.inr (Nat.le_trans (Nat.le_refl _) (Nat.le_of_eq g12.symm))) all0))
  refine zl 33 _ [] (fun t k => XS.astore X16.here hx rfl d31 rfl rfl (l' := #[rv a, rv b, rv b3, rv b6, rv b12]) rfl k) ?_
  refine zR X16 hx d33 rfl rfl 34 rfl ?_
  refine zR2 X16 hx d34 rfl rfl 36 rfl ?_
  refine zR X16 hx d36 rfl rfl 37 rfl ?_
  refine zK X16 hx d37 0 rfl 38 rfl ?_
  have F18 := (f10_0.keep K17)
  have F19 := (f10_1.keep K17 nin0)
  have F20 := (f10_2.keep K17 nin0)
  have F21 := (f10_3.keep K17 nin0)
  have F22 := (F15.keep K16 (ninS (Nat.ne_of_lt (Nat.lt_of_lt_of_le (Nat.lt_of_lt_of_le Em1.lt (Nat.le_trans K5.1 K11.1)) (Nat.le_of_eq g12.symm))) nin0))
  have F23 := ((f4_0.keep K11).keep K17)
  have F24 := ((f4_1.keep K11 nin0).keep K17 nin0)
  have F25 := ((f4_2.keep K11 nin0).keep K17 nin0)
  have F26 := ((f4_3.keep K11 nin0).keep K17 nin0)
  have F27 := ((f4_4.keep K11 nin0).keep K17 nin0)
  refine zCV X16 hx hZ hml hown (tw hw 144 rfl) (tw hw 145 rfl) (tw hw 129 rfl) (tw hw 148 rfl) (tw hw 147 rfl) (tw hw 146 rfl) (rmDk0 l Z a0 hw [] b6 m2 b12 m1 km1 b3 ra_4 kr_4 T16.heap n0 (Nat.le_trans Z0 (Nat.le_trans (Nat.le_trans K5.1 K11.1) K17.1)) F18 F19 F20 F21 f16_0 f16_1 f16_2 f16_3 F22 F23 F24 F25 F26 F27 (Nat.le_trans (Nat.le_trans Z0 (Nat.le_refl _)) (Nat.le_of_eq g3.symm)) (Nat.le_trans (Nat.le_trans Z0 E3.1) f4_6) (Ne.symm (Nat.ne_of_lt (Nat.lt_of_lt_of_le A3.lt f4_6))) (Nat.ne_of_lt (Nat.lt_of_lt_of_le Em1.lt (Nat.le_of_eq g3.symm))) (Ne.symm (Nat.ne_of_lt (Nat.lt_of_lt_of_le (Nat.lt_of_lt_of_le A3.lt (Nat.le_trans K4.1 K11.1)) (Nat.le_of_eq g12.symm)))) (Nat.ne_of_lt (Nat.lt_of_lt_of_le (Nat.lt_of_lt_of_le Em1.lt E3.1) f4_6)) (Ne.symm (Nat.ne_of_lt (Nat.lt_of_lt_of_le (Nat.lt_of_lt_of_le f4_4.lt K11.1) (Nat.le_of_eq g12.symm))))) 0 (by decide) b6 [] rfl rfl (lenOf pd_15 rfl) rfl (Nat.le_of_eq rfl) rfl F18 d38 41 rfl fun T28 L28 v28 X28 ⟨Lc28, hQ28, l28⟩ => ?_
  obtain ⟨rfl, Nq28, K28, f28_0, f28_1, f28_2, f28_3⟩ := hQ28
  have N28 := own_frApp N16 Nq28 l28
  refine zx [.null] rfl ?_
  refine zq 42 [] (fun t k => XS.pop X28.here hx rfl d41 rfl rfl k) ?_
  refine zR X28 hx d42 rfl rfl 43 rfl ?_
  refine zR X28 hx d43 rfl rfl 44 rfl ?_
  have F29 := ((((Fs2.keep K5 nin0).keep K11 nin0).keep K17 nin0).keep K28 (ninS (Nat.ne_of_lt (Nat.lt_of_lt_of_le (BI.lt p_BI_a) (Nat.le_of_eq g3.symm))) nin0))
  refine zP X28 hx hZ hown (tw hw 47 rfl) rfl F29 d44 47 rfl fun T30 X30 e30 => ?_
  refine zR X30 hx d47 rfl rfl 48 rfl ?_
  have F31 := ((((Fs1.keep K5 nin0).keep K11 nin0).keep K17 nin0).keep K28 (ninS (Nat.ne_of_lt (Nat.lt_of_lt_of_le (BI.lt p_BI_b) (Nat.le_of_eq g3.symm))) nin0))
  refine zP X30 hx hZ hown (tw hw 47 rfl) e30 F31 d48 51 rfl fun T32 X32 e32 => ?_
  refine zq 52 [.int ((0 : Int32) * (1 : Int32)), .ref b3] (fun t k => XS.imul X32.here hx rfl d51 rfl k) ?_
  have rw33 : ((0 : Int32) * (1 : Int32)) = (0 : Int32) := (by decide)
  rw [rw33]
  have F34 := ((((X00.keep K5 all0).keep K11 all0).keep K17 all0).keep K28 (allS (Nat.le_trans (Nat.le_trans Z0 (Nat.le_refl _)) (Nat.le_of_eq g3.symm)) all0))
  refine zCV X32 hx hZ hml hown (tw hw 149 rfl) (tw hw 150 rfl) (tw hw 129 rfl) (tw hw 153 rfl) (tw hw 152 rfl) (tw hw 151 rfl) (rmTb0 l Z a0 hw [] b3 ra_4 (0 : Int32) T28.heap n0 (Nat.le_trans Z0 (Nat.le_trans (Nat.le_trans (Nat.le_trans K5.1 K11.1) K17.1) K28.1)) zA oA pA nA kP kN vP vN G0 F34 f28_0 f28_1 f28_2 f28_3) 0 (by decide) b3 [] rfl rfl (lenOf pd_12 rfl) rfl (Nat.le_of_eq rfl) e32 f28_0 d52 55 rfl fun T35 L35 v35 X35 ⟨Lc35, hQ35, l35⟩ => ?_
  obtain ⟨rfl, Nq35, eh35⟩ := hQ35
  have N35 := own_frApp N28 Nq35 l35
  refine zx [.ref zA] rfl ?_
  have F37 := (BI.keep (BZ.ext X00.2) (((((Keep.refl h0 []).trans K5 all0).trans K11 all0).trans K17 all0).trans K28 (allS (Or.inr (Nat.le_trans (Nat.le_refl _) (Nat.le_of_eq g3.symm))) all0)))
  have B36 : BI Z T28.heap zA vv := BI.cast ((hv2).symm : (0 : Int) = vv) F37
  exact own_finR X35 hx hlk hre rfl rfl d55 eh35 ⟨zA, rfl, N35, (((((Keep.refl h0 []).trans K5 all0).trans K11 all0).trans K17 all0).trans K28 (allS (Or.inr (Nat.le_trans (Nat.le_refl _) (Nat.le_of_eq g3.symm))) all0)), B36⟩ (by decide) (by decide)
 ·obtain ⟨T38, h38, X38, e38, E38, A38, D38, -, st38⟩ := newO X0 hx hZ hown (tw hw 127 rfl) (tw hw 128 rfl) (tw hw 129 rfl) e0 (g := (mkF m 0 #[rv a, rv b, .unset, .unset, .unset] [])) rfl d0 (by decide) (by decide)
  obtain ⟨b38, g38⟩ : ∃ z, z = h0.size := ⟨_, rfl⟩
  rw [← g38] at A38 D38 st38
  have X38 := own_reX X38 (rfl : _ = 1) (rfl : _ = 3)
  refine zt 3 [.ref b38] st38 ?_
  refine zD X38 hx d3 rfl 4 rfl ?_
  refine zCI X38 hx hZ hml rfl rfl hown (tw hw 130 rfl) (tw hw 131 rfl) (tw hw 129 rfl) (tw hw 133 rfl) (rmMi0 l Z a0 hw [] b38 h38 n0 (Nat.le_trans Z0 E38.1) A38 (D38 (Or.inl (tw hw 138 rfl)) pf_1) (D38 (Or.inl (tw hw 140 rfl)) pf_0) (D38 (Or.inl (tw hw 136 rfl)) pf_0) (Nat.le_trans (Nat.le_trans Z0 (Nat.le_refl _)) (Nat.le_of_eq g38.symm))) 1 (by decide) b38 [.ref b38] rfl rfl (lenOf pd_2 rfl) rfl (Nat.le_of_eq rfl) e38 d4 7 rfl fun T39 L39 v39 X39 ⟨Lc39, hQ39, l39⟩ => ?_
  have X39 := own_reX X39 (rfl : _ = 2) (rfl : _ = 4)
  obtain ⟨ra_39, kr_39, rfl, Nq39, K39, f39_0, f39_1, f39_2, f39_3, f39_4, f39_5, f39_6⟩ := hQ39
  have N39 := own_frApp N0 Nq39 l39
  refine zx [.ref b38] rfl ?_
  have K40 : Keep h0 T39.heap [] := (((Keep.refl h0 []).ext E38).trans K39 (allS (Or.inr (Nat.le_trans (Nat.le_refl _) (Nat.le_of_eq g38.symm))) all0))
  refine zl 8 _ [] (fun t k => XS.astoreN X39.here hx rfl d7 rfl rfl (l' := #[rv a, rv b, rv b38, .unset, .unset]) rfl k) ?_
  obtain ⟨T41, h41, X41, e41, E41, A41, D41, -, st41⟩ := newO X39 hx hZ hown (tw hw 127 rfl) (tw hw 128 rfl) (tw hw 129 rfl) rfl (g := (mkF m 8 #[rv a, rv b, rv b38, .unset, .unset] [])) rfl d8 (by decide) (by decide)
  obtain ⟨b41, g41⟩ : ∃ z, z = T39.heap.size := ⟨_, rfl⟩
  rw [← g41] at A41 D41 st41
  have X41 := own_reX X41 (rfl : _ = 3) (rfl : _ = 7)
  refine zt 11 [.ref b41] st41 ?_
  refine zD X41 hx d11 rfl 12 rfl ?_
  refine zR X41 hx d12 rfl rfl 13 rfl ?_
  have F42 := ((Fm2.keep K40 nin0).ext E41)
  refine zP X41 hx hZ hown (tw hw 49 rfl) e41 F42 d13 16 rfl fun T43 X43 e43 => ?_
  have F44 := ((Ar2.keep K40 nin0).ext E41)
  refine zCI X43 hx hZ hml rfl rfl hown (tw hw 141 rfl) (tw hw 142 rfl) (tw hw 129 rfl) (tw hw 143 rfl) (rmMiA1 l Z a0 hw [] b41 m2 km2 w2 h41 n0 (Nat.le_trans Z0 (Nat.le_trans K40.1 E41.1)) A41 (D41 (Or.inl (tw hw 138 rfl)) pf_1) (D41 (Or.inl (tw hw 140 rfl)) pf_0) (D41 (Or.inl (tw hw 136 rfl)) pf_0) (Nat.le_trans (Nat.le_trans Z0 K40.1) (Nat.le_of_eq g41.symm)) F44 (Nat.ne_of_lt (Nat.lt_of_lt_of_le (Nat.lt_of_lt_of_le Em2.lt K40.1) (Nat.le_of_eq g41.symm)))) 1 (by decide) b41 [.ref b41] rfl rfl (lenOf pd_14 rfl) rfl (Nat.le_of_eq rfl) e43 d16 19 rfl fun T45 L45 v45 X45 ⟨Lc45, hQ45, l45⟩ => ?_
  obtain ⟨rfl, Nq45, K45, f45_0, f45_1, f45_2, f45_3⟩ := hQ45
  have N45 := own_frApp N39 Nq45 l45
  refine zx [.ref b41] rfl ?_
  have K46 : Keep T39.heap T45.heap [] := (((Keep.refl T39.heap []).ext E41).trans K45 (allS (Or.inr (Nat.le_trans (Nat.le_refl _) (Nat.le_of_eq g41.symm))) all0))
  refine zl 20 _ [] (fun t k => XS.astoreN X45.here hx rfl d19 rfl rfl (l' := #[rv a, rv b, rv b38, rv b41, .unset]) rfl k) ?_
  obtain ⟨T47, h47, X47, e47, E47, A47, D47, -, st47⟩ := newO X45 hx hZ hown (tw hw 127 rfl) (tw hw 128 rfl) (tw hw 129 rfl) rfl (g := (mkF m 20 #[rv a, rv b, rv b38, rv b41, .unset] [])) rfl d20 (by decide) (by decide)
  obtain ⟨b47, g47⟩ : ∃ z, z = T45.heap.size := ⟨_, rfl⟩
  rw [← g47] at A47 D47 st47
  have X47 := own_reX X47 (rfl : _ = 4) (rfl : _ = 10)
  refine zt 23 [.ref b47] st47 ?_
  refine zD X47 hx d23 rfl 24 rfl ?_
  refine zR X47 hx d24 rfl rfl 25 rfl ?_
  have F48 := (((Fm1.keep K40 nin0).keep K46 nin0).ext E47)
  refine zP X47 hx hZ hown (tw hw 49 rfl) e47 F48 d25 28 rfl fun T49 X49 e49 => ?_
  have F50 := (((Ar1.keep K40 nin0).keep K46 nin0).ext E47)
  refine zCI X49 hx hZ hml rfl rfl hown (tw hw 141 rfl) (tw hw 142 rfl) (tw hw 129 rfl) (tw hw 143 rfl) (rmMiA1 l Z a0 hw [] b47 m1 km1 (1 : Int32) h47 n0 (Nat.le_trans Z0 (Nat.le_trans (Nat.le_trans K40.1 K46.1) E47.1)) A47 (D47 (Or.inl (tw hw 138 rfl)) pf_1) (D47 (Or.inl (tw hw 140 rfl)) pf_0) (D47 (Or.inl (tw hw 136 rfl)) pf_0) (Nat.le_trans (Nat.le_trans Z0 (Nat.le_trans K40.1 K46.1)) (Nat.le_of_eq g47.symm)) F50 (Nat.ne_of_lt (Nat.lt_of_lt_of_le (Nat.lt_of_lt_of_le Em1.lt (Nat.le_trans K40.1 K46.1)) (Nat.le_of_eq g47.symm)))) 1 (by decide) b47 [.ref b47] rfl rfl (lenOf pd_14 rfl) rfl (Nat.le_of_eq rfl) e49 d28 31 rfl fun T51 L51 v51 X51 ⟨Lc51, hQ51, l51⟩ => ?_
  obtain ⟨rfl, Nq51, K51, f51_0, f51_1, f51_2, f51_3⟩ := hQ51
  have N51 := own_frApp N45 Nq51 l51
  refine zx [.ref b47] rfl ?_
  have K52 : Keep T45.heap T51.heap [] := (((Keep.refl T45.heap []).ext E47).trans K51 (allS (Or.inr (Nat.le_trans (Nat.le_refl _) (Nat.le_of_eq g47.symm))) all0))
  refine zl 33 _ [] (fun t k => XS.astore X51.here hx rfl d31 rfl rfl (l' := #[rv a, rv b, rv b38, rv b41, rv b47]) rfl k) ?_
  refine zR X51 hx d33 rfl rfl 34 rfl ?_
  refine zR2 X51 hx d34 rfl rfl 36 rfl ?_
  refine zR X51 hx d36 rfl rfl 37 rfl ?_
  refine zK X51 hx d37 0 rfl 38 rfl ?_
  have F53 := (f45_0.keep K52)
  have F54 := (f45_1.keep K52 nin0)
  have F55 := (f45_2.keep K52 nin0)
  have F56 := (f45_3.keep K52 nin0)
  have F57 := ((F44.keep K45 (ninS (Nat.ne_of_lt (Nat.lt_of_lt_of_le (Nat.lt_of_lt_of_le Em2.lt K40.1) (Nat.le_of_eq g41.symm))) nin0)).keep K52 nin0)
  have F58 := (F50.keep K51 (ninS (Nat.ne_of_lt (Nat.lt_of_lt_of_le (Nat.lt_of_lt_of_le Em1.lt (Nat.le_trans K40.1 K46.1)) (Nat.le_of_eq g47.symm))) nin0))
  have F59 := ((f39_0.keep K46).keep K52)
  have F60 := ((f39_1.keep K46 nin0).keep K52 nin0)
  have F61 := ((f39_2.keep K46 nin0).keep K52 nin0)
  have F62 := ((f39_3.keep K46 nin0).keep K52 nin0)
  have F63 := ((f39_4.keep K46 nin0).keep K52 nin0)
  refine zCV X51 hx hZ hml hown (tw hw 144 rfl) (tw hw 145 rfl) (tw hw 129 rfl) (tw hw 148 rfl) (tw hw 147 rfl) (tw hw 146 rfl) (rmDk1 l Z a0 hw [] b41 m2 km2 b47 m1 km1 b38 ra_39 kr_39 w2 T51.heap n0 (Nat.le_trans Z0 (Nat.le_trans (Nat.le_trans K40.1 K46.1) K52.1)) F53 F54 F55 F56 F57 hn2 f51_0 f51_1 f51_2 f51_3 F58 F59 F60 F61 F62 F63 (Nat.le_trans (Nat.le_trans Z0 (Nat.le_refl _)) (Nat.le_of_eq g38.symm)) (Nat.le_trans (Nat.le_trans Z0 E38.1) f39_6) (Ne.symm (Nat.ne_of_lt (Nat.lt_of_lt_of_le A38.lt f39_6))) (Nat.ne_of_lt (Nat.lt_of_lt_of_le Em1.lt (Nat.le_of_eq g38.symm))) (Ne.symm (Nat.ne_of_lt (Nat.lt_of_lt_of_le (Nat.lt_of_lt_of_le A38.lt (Nat.le_trans K39.1 K46.1)) (Nat.le_of_eq g47.symm)))) (Nat.ne_of_lt (Nat.lt_of_lt_of_le (Nat.lt_of_lt_of_le Em1.lt E38.1) f39_6)) (Ne.symm (Nat.ne_of_lt (Nat.lt_of_lt_of_le (Nat.lt_of_lt_of_le f39_4.lt K46.1) (Nat.le_of_eq g47.symm)))) (Nat.ne_of_lt (Nat.lt_of_lt_of_le (Nat.lt_of_lt_of_le Em2.lt E38.1) f39_6)) (Nat.ne_of_lt (Nat.lt_of_lt_of_le Em2.lt (Nat.le_of_eq g38.symm))) (Ne.symm (Nat.ne_of_lt (Nat.lt_of_lt_of_le f39_4.lt (Nat.le_of_eq g41.symm)))) (Ne.symm (Nat.ne_of_lt (Nat.lt_of_lt_of_le (Nat.lt_of_lt_of_le A38.lt K39.1) (Nat.le_of_eq g41.symm))))) 0 (by decide) b41 [] rfl rfl (lenOf pd_15 rfl) rfl (Nat.le_of_eq rfl) rfl F53 d38 41 rfl fun T64 L64 v64 X64 ⟨Lc64, hQ64, l64⟩ => ?_
  obtain ⟨rfl, Nq64, K64, f64_0, f64_1, f64_2, f64_3, f64_4⟩ := hQ64
  have N64 := own_frApp N51 Nq64 l64
  refine zx [.null] rfl ?_
  refine zq 42 [] (fun t k => XS.pop X64.here hx rfl d41 rfl rfl k) ?_
  refine zR X64 hx d42 rfl rfl 43 rfl ?_
  refine zR X64 hx d43 rfl rfl 44 rfl ?_
  have F65 := ((((Fs2.keep K40 nin0).keep K46 nin0).keep K52 nin0).keep K64 (ninS (Nat.ne_of_lt (Nat.lt_of_lt_of_le (BI.lt p_BI_a) (Nat.le_of_eq g38.symm))) (ninS (Nat.ne_of_lt (Nat.lt_of_lt_of_le (Nat.lt_of_lt_of_le (BI.lt p_BI_a) E38.1) f39_6)) nin0)))
  refine zP X64 hx hZ hown (tw hw 47 rfl) rfl F65 d44 47 rfl fun T66 X66 e66 => ?_
  refine zR X66 hx d47 rfl rfl 48 rfl ?_
  have F67 := ((((Fs1.keep K40 nin0).keep K46 nin0).keep K52 nin0).keep K64 (ninS (Nat.ne_of_lt (Nat.lt_of_lt_of_le (BI.lt p_BI_b) (Nat.le_of_eq g38.symm))) (ninS (Nat.ne_of_lt (Nat.lt_of_lt_of_le (Nat.lt_of_lt_of_le (BI.lt p_BI_b) E38.1) f39_6)) nin0)))
  refine zP X66 hx hZ hown (tw hw 47 rfl) e66 F67 d48 51 rfl fun T68 X68 e68 => ?_
  refine zq 52 [.int ((1 : Int32) * (1 : Int32)), .ref b38] (fun t k => XS.imul X68.here hx rfl d51 rfl k) ?_
  have rw69 : ((1 : Int32) * (1 : Int32)) = (1 : Int32) := (by decide)
  rw [rw69]
  refine zCV X68 hx hZ hml hown (tw hw 149 rfl) (tw hw 150 rfl) (tw hw 129 rfl) (tw hw 153 rfl) (tw hw 152 rfl) (tw hw 151 rfl) (rmTb1 l Z a0 hw [] b38 ra_39 kr_39 (1 : Int32) w2 T64.heap n0 (Nat.le_trans Z0 (Nat.le_trans (Nat.le_trans (Nat.le_trans K40.1 K46.1) K52.1) K64.1)) f64_0 f64_1 f64_2 f64_3 f64_4 (by decide)) 0 (by decide) b38 [] rfl rfl (lenOf pd_12 rfl) rfl (Nat.le_of_eq rfl) e68 f64_0 d52 55 rfl fun T70 L70 v70 X70 ⟨Lc70, hQ70, l70⟩ => ?_
  have X70 := own_reX X70 (rfl : _ = 5) (rfl : _ = 16)
  obtain ⟨r_70, rfl, Nq70, K70, f70_0, f70_1, f70_2, f70_3⟩ := hQ70
  have N70 := own_frApp N64 Nq70 l70
  refine zx [.ref r_70] rfl ?_
  have F72 := ((((f39_5.keep K46).keep K52).keep K64).keep K70)
  have F73 := (f64_4.keep K70 nin0)
  have B71 : BI Z T70.heap r_70 vv := ⟨ra_39, _, f70_1, f70_3, F72, Or.inr (Or.inl ⟨w2, hn2, F73, Or.inl ⟨f70_2, hv2⟩⟩)⟩
  exact own_finR X70 hx hlk hre rfl rfl d55 rfl ⟨r_70, rfl, N70, ((((((Keep.refl h0 []).trans K40 all0).trans K46 all0).trans K52 all0).trans K64 (allS (Or.inr (Nat.le_trans (Nat.le_refl _) (Nat.le_of_eq g38.symm))) (allS (Or.inr (Nat.le_trans E38.1 f39_6)) all0))).trans K70 all0), B71⟩ (by decide) (by decide)
 ·obtain ⟨T74, h74, X74, e74, E74, A74, D74, -, st74⟩ := newO X0 hx hZ hown (tw hw 127 rfl) (tw hw 128 rfl) (tw hw 129 rfl) e0 (g := (mkF m 0 #[rv a, rv b, .unset, .unset, .unset] [])) rfl d0 (by decide) (by decide)
  obtain ⟨b74, g74⟩ : ∃ z, z = h0.size := ⟨_, rfl⟩
  rw [← g74] at A74 D74 st74
  have X74 := own_reX X74 (rfl : _ = 1) (rfl : _ = 3)
  refine zt 3 [.ref b74] st74 ?_
  refine zD X74 hx d3 rfl 4 rfl ?_
  refine zCI X74 hx hZ hml rfl rfl hown (tw hw 130 rfl) (tw hw 131 rfl) (tw hw 129 rfl) (tw hw 133 rfl) (rmMi0 l Z a0 hw [] b74 h74 n0 (Nat.le_trans Z0 E74.1) A74 (D74 (Or.inl (tw hw 138 rfl)) pf_1) (D74 (Or.inl (tw hw 140 rfl)) pf_0) (D74 (Or.inl (tw hw 136 rfl)) pf_0) (Nat.le_trans (Nat.le_trans Z0 (Nat.le_refl _)) (Nat.le_of_eq g74.symm))) 1 (by decide) b74 [.ref b74] rfl rfl (lenOf pd_2 rfl) rfl (Nat.le_of_eq rfl) e74 d4 7 rfl fun T75 L75 v75 X75 ⟨Lc75, hQ75, l75⟩ => ?_
  have X75 := own_reX X75 (rfl : _ = 2) (rfl : _ = 4)
  obtain ⟨ra_75, kr_75, rfl, Nq75, K75, f75_0, f75_1, f75_2, f75_3, f75_4, f75_5, f75_6⟩ := hQ75
  have N75 := own_frApp N0 Nq75 l75
  refine zx [.ref b74] rfl ?_
  have K76 : Keep h0 T75.heap [] := (((Keep.refl h0 []).ext E74).trans K75 (allS (Or.inr (Nat.le_trans (Nat.le_refl _) (Nat.le_of_eq g74.symm))) all0))
  refine zl 8 _ [] (fun t k => XS.astoreN X75.here hx rfl d7 rfl rfl (l' := #[rv a, rv b, rv b74, .unset, .unset]) rfl k) ?_
  obtain ⟨T77, h77, X77, e77, E77, A77, D77, -, st77⟩ := newO X75 hx hZ hown (tw hw 127 rfl) (tw hw 128 rfl) (tw hw 129 rfl) rfl (g := (mkF m 8 #[rv a, rv b, rv b74, .unset, .unset] [])) rfl d8 (by decide) (by decide)
  obtain ⟨b77, g77⟩ : ∃ z, z = T75.heap.size := ⟨_, rfl⟩
  rw [← g77] at A77 D77 st77
  have X77 := own_reX X77 (rfl : _ = 3) (rfl : _ = 7)
  refine zt 11 [.ref b77] st77 ?_
  refine zD X77 hx d11 rfl 12 rfl ?_
  refine zR X77 hx d12 rfl rfl 13 rfl ?_
  have F78 := ((Fm2.keep K76 nin0).ext E77)
  refine zP X77 hx hZ hown (tw hw 49 rfl) e77 F78 d13 16 rfl fun T79 X79 e79 => ?_
  have F80 := ((Ar2.keep K76 nin0).ext E77)
  refine zCI X79 hx hZ hml rfl rfl hown (tw hw 141 rfl) (tw hw 142 rfl) (tw hw 129 rfl) (tw hw 143 rfl) (rmMiA1 l Z a0 hw [] b77 m2 km2 w2 h77 n0 (Nat.le_trans Z0 (Nat.le_trans K76.1 E77.1)) A77 (D77 (Or.inl (tw hw 138 rfl)) pf_1) (D77 (Or.inl (tw hw 140 rfl)) pf_0) (D77 (Or.inl (tw hw 136 rfl)) pf_0) (Nat.le_trans (Nat.le_trans Z0 K76.1) (Nat.le_of_eq g77.symm)) F80 (Nat.ne_of_lt (Nat.lt_of_lt_of_le (Nat.lt_of_lt_of_le Em2.lt K76.1) (Nat.le_of_eq g77.symm)))) 1 (by decide) b77 [.ref b77] rfl rfl (lenOf pd_14 rfl) rfl (Nat.le_of_eq rfl) e79 d16 19 rfl fun T81 L81 v81 X81 ⟨Lc81, hQ81, l81⟩ => ?_
  obtain ⟨rfl, Nq81, K81, f81_0, f81_1, f81_2, f81_3⟩ := hQ81
  have N81 := own_frApp N75 Nq81 l81
  refine zx [.ref b77] rfl ?_
  have K82 : Keep T75.heap T81.heap [] := (((Keep.refl T75.heap []).ext E77).trans K81 (allS (Or.inr (Nat.le_trans (Nat.le_refl _) (Nat.le_of_eq g77.symm))) all0))
  refine zl 20 _ [] (fun t k => XS.astoreN X81.here hx rfl d19 rfl rfl (l' := #[rv a, rv b, rv b74, rv b77, .unset]) rfl k) ?_
  obtain ⟨T83, h83, X83, e83, E83, A83, D83, -, st83⟩ := newO X81 hx hZ hown (tw hw 127 rfl) (tw hw 128 rfl) (tw hw 129 rfl) rfl (g := (mkF m 20 #[rv a, rv b, rv b74, rv b77, .unset] [])) rfl d20 (by decide) (by decide)
  obtain ⟨b83, g83⟩ : ∃ z, z = T81.heap.size := ⟨_, rfl⟩
  rw [← g83] at A83 D83 st83
  have X83 := own_reX X83 (rfl : _ = 4) (rfl : _ = 10)
  refine zt 23 [.ref b83] st83 ?_
  refine zD X83 hx d23 rfl 24 rfl ?_
  refine zR X83 hx d24 rfl rfl 25 rfl ?_
  have F84 := (((Fm1.keep K76 nin0).keep K82 nin0).ext E83)
  refine zP X83 hx hZ hown (tw hw 49 rfl) e83 F84 d25 28 rfl fun T85 X85 e85 => ?_
  have F86 := (((Ar1.keep K76 nin0).keep K82 nin0).ext E83)
  refine zCI X85 hx hZ hml rfl rfl hown (tw hw 141 rfl) (tw hw 142 rfl) (tw hw 129 rfl) (tw hw 143 rfl) (rmMiA1 l Z a0 hw [] b83 m1 km1 (1 : Int32) h83 n0 (Nat.le_trans Z0 (Nat.le_trans (Nat.le_trans K76.1 K82.1) E83.1)) A83 (D83 (Or.inl (tw hw 138 rfl)) pf_1) (D83 (Or.inl (tw hw 140 rfl)) pf_0) (D83 (Or.inl (tw hw 136 rfl)) pf_0) (Nat.le_trans (Nat.le_trans Z0 (Nat.le_trans K76.1 K82.1)) (Nat.le_of_eq g83.symm)) F86 (Nat.ne_of_lt (Nat.lt_of_lt_of_le (Nat.lt_of_lt_of_le Em1.lt (Nat.le_trans K76.1 K82.1)) (Nat.le_of_eq g83.symm)))) 1 (by decide) b83 [.ref b83] rfl rfl (lenOf pd_14 rfl) rfl (Nat.le_of_eq rfl) e85 d28 31 rfl fun T87 L87 v87 X87 ⟨Lc87, hQ87, l87⟩ => ?_
  obtain ⟨rfl, Nq87, K87, f87_0, f87_1, f87_2, f87_3⟩ := hQ87
  have N87 := own_frApp N81 Nq87 l87
  refine zx [.ref b83] rfl ?_
  have K88 : Keep T81.heap T87.heap [] := (((Keep.refl T81.heap []).ext E83).trans K87 (allS (Or.inr (Nat.le_trans (Nat.le_refl _) (Nat.le_of_eq g83.symm))) all0))
  refine zl 33 _ [] (fun t k => XS.astore X87.here hx rfl d31 rfl rfl (l' := #[rv a, rv b, rv b74, rv b77, rv b83]) rfl k) ?_
  refine zR X87 hx d33 rfl rfl 34 rfl ?_
  refine zR2 X87 hx d34 rfl rfl 36 rfl ?_
  refine zR X87 hx d36 rfl rfl 37 rfl ?_
  refine zK X87 hx d37 0 rfl 38 rfl ?_
  have F89 := (f81_0.keep K88)
  have F90 := (f81_1.keep K88 nin0)
  have F91 := (f81_2.keep K88 nin0)
  have F92 := (f81_3.keep K88 nin0)
  have F93 := ((F80.keep K81 (ninS (Nat.ne_of_lt (Nat.lt_of_lt_of_le (Nat.lt_of_lt_of_le Em2.lt K76.1) (Nat.le_of_eq g77.symm))) nin0)).keep K88 nin0)
  have F94 := (F86.keep K87 (ninS (Nat.ne_of_lt (Nat.lt_of_lt_of_le (Nat.lt_of_lt_of_le Em1.lt (Nat.le_trans K76.1 K82.1)) (Nat.le_of_eq g83.symm))) nin0))
  have F95 := ((f75_0.keep K82).keep K88)
  have F96 := ((f75_1.keep K82 nin0).keep K88 nin0)
  have F97 := ((f75_2.keep K82 nin0).keep K88 nin0)
  have F98 := ((f75_3.keep K82 nin0).keep K88 nin0)
  have F99 := ((f75_4.keep K82 nin0).keep K88 nin0)
  refine zCV X87 hx hZ hml hown (tw hw 144 rfl) (tw hw 145 rfl) (tw hw 129 rfl) (tw hw 148 rfl) (tw hw 147 rfl) (tw hw 146 rfl) (rmDk1 l Z a0 hw [] b77 m2 km2 b83 m1 km1 b74 ra_75 kr_75 w2 T87.heap n0 (Nat.le_trans Z0 (Nat.le_trans (Nat.le_trans K76.1 K82.1) K88.1)) F89 F90 F91 F92 F93 hn2 f87_0 f87_1 f87_2 f87_3 F94 F95 F96 F97 F98 F99 (Nat.le_trans (Nat.le_trans Z0 (Nat.le_refl _)) (Nat.le_of_eq g74.symm)) (Nat.le_trans (Nat.le_trans Z0 E74.1) f75_6) (Ne.symm (Nat.ne_of_lt (Nat.lt_of_lt_of_le A74.lt f75_6))) (Nat.ne_of_lt (Nat.lt_of_lt_of_le Em1.lt (Nat.le_of_eq g74.symm))) (Ne.symm (Nat.ne_of_lt (Nat.lt_of_lt_of_le (Nat.lt_of_lt_of_le A74.lt (Nat.le_trans K75.1 K82.1)) (Nat.le_of_eq g83.symm)))) (Nat.ne_of_lt (Nat.lt_of_lt_of_le (Nat.lt_of_lt_of_le Em1.lt E74.1) f75_6)) (Ne.symm (Nat.ne_of_lt (Nat.lt_of_lt_of_le (Nat.lt_of_lt_of_le f75_4.lt K82.1) (Nat.le_of_eq g83.symm)))) (Nat.ne_of_lt (Nat.lt_of_lt_of_le (Nat.lt_of_lt_of_le Em2.lt E74.1) f75_6)) (Nat.ne_of_lt (Nat.lt_of_lt_of_le Em2.lt (Nat.le_of_eq g74.symm))) (Ne.symm (Nat.ne_of_lt (Nat.lt_of_lt_of_le f75_4.lt (Nat.le_of_eq g77.symm)))) (Ne.symm (Nat.ne_of_lt (Nat.lt_of_lt_of_le (Nat.lt_of_lt_of_le A74.lt K75.1) (Nat.le_of_eq g77.symm))))) 0 (by decide) b77 [] rfl rfl (lenOf pd_15 rfl) rfl (Nat.le_of_eq rfl) rfl F89 d38 41 rfl fun T100 L100 v100 X100 ⟨Lc100, hQ100, l100⟩ => ?_
  obtain ⟨rfl, Nq100, K100, f100_0, f100_1, f100_2, f100_3, f100_4⟩ := hQ100
  have N100 := own_frApp N87 Nq100 l100
  refine zx [.null] rfl ?_
  refine zq 42 [] (fun t k => XS.pop X100.here hx rfl d41 rfl rfl k) ?_
  refine zR X100 hx d42 rfl rfl 43 rfl ?_
  refine zR X100 hx d43 rfl rfl 44 rfl ?_
  have F101 := ((((Fs2.keep K76 nin0).keep K82 nin0).keep K88 nin0).keep K100 (ninS (Nat.ne_of_lt (Nat.lt_of_lt_of_le (BI.lt p_BI_a) (Nat.le_of_eq g74.symm))) (ninS (Nat.ne_of_lt (Nat.lt_of_lt_of_le (Nat.lt_of_lt_of_le (BI.lt p_BI_a) E74.1) f75_6)) nin0)))
  refine zP X100 hx hZ hown (tw hw 47 rfl) rfl F101 d44 47 rfl fun T102 X102 e102 => ?_
  refine zR X102 hx d47 rfl rfl 48 rfl ?_
  have F103 := ((((Fs1.keep K76 nin0).keep K82 nin0).keep K88 nin0).keep K100 (ninS (Nat.ne_of_lt (Nat.lt_of_lt_of_le (BI.lt p_BI_b) (Nat.le_of_eq g74.symm))) (ninS (Nat.ne_of_lt (Nat.lt_of_lt_of_le (Nat.lt_of_lt_of_le (BI.lt p_BI_b) E74.1) f75_6)) nin0)))
  refine zP X102 hx hZ hown (tw hw 47 rfl) e102 F103 d48 51 rfl fun T104 X104 e104 => ?_
  refine zq 52 [.int ((-1 : Int32) * (1 : Int32)), .ref b74] (fun t k => XS.imul X104.here hx rfl d51 rfl k) ?_
  have rw105 : ((-1 : Int32) * (1 : Int32)) = (-1 : Int32) := (by decide)
  rw [rw105]
  refine zCV X104 hx hZ hml hown (tw hw 149 rfl) (tw hw 150 rfl) (tw hw 129 rfl) (tw hw 153 rfl) (tw hw 152 rfl) (tw hw 151 rfl) (rmTb1 l Z a0 hw [] b74 ra_75 kr_75 (-1 : Int32) w2 T100.heap n0 (Nat.le_trans Z0 (Nat.le_trans (Nat.le_trans (Nat.le_trans K76.1 K82.1) K88.1) K100.1)) f100_0 f100_1 f100_2 f100_3 f100_4 (by decide)) 0 (by decide) b74 [] rfl rfl (lenOf pd_12 rfl) rfl (Nat.le_of_eq rfl) e104 f100_0 d52 55 rfl fun T106 L106 v106 X106 ⟨Lc106, hQ106, l106⟩ => ?_
  have X106 := own_reX X106 (rfl : _ = 5) (rfl : _ = 16)
  obtain ⟨r_106, rfl, Nq106, K106, f106_0, f106_1, f106_2, f106_3⟩ := hQ106
  have N106 := own_frApp N100 Nq106 l106
  refine zx [.ref r_106] rfl ?_
  have F108 := ((((f75_5.keep K82).keep K88).keep K100).keep K106)
  have F109 := (f100_4.keep K106 nin0)
  have B107 : BI Z T106.heap r_106 vv := ⟨ra_75, _, f106_1, f106_3, F108, Or.inr (Or.inl ⟨w2, hn2, F109, Or.inr ⟨f106_2, hv2⟩⟩)⟩
  exact own_finR X106 hx hlk hre rfl rfl d55 rfl ⟨r_106, rfl, N106, ((((((Keep.refl h0 []).trans K76 all0).trans K82 all0).trans K88 all0).trans K100 (allS (Or.inr (Nat.le_trans (Nat.le_refl _) (Nat.le_of_eq g74.symm))) (allS (Or.inr (Nat.le_trans E74.1 f75_6)) all0))).trans K106 all0), B107⟩ (by decide) (by decide)
 ·obtain ⟨T110, h110, X110, e110, E110, A110, D110, -, st110⟩ := newO X0 hx hZ hown (tw hw 127 rfl) (tw hw 128 rfl) (tw hw 129 rfl) e0 (g := (mkF m 0 #[rv a, rv b, .unset, .unset, .unset] [])) rfl d0 (by decide) (by decide)
  obtain ⟨b110, g110⟩ : ∃ z, z = h0.size := ⟨_, rfl⟩
  rw [← g110] at A110 D110 st110
  have X110 := own_reX X110 (rfl : _ = 1) (rfl : _ = 3)
  refine zt 3 [.ref b110] st110 ?_
  refine zD X110 hx d3 rfl 4 rfl ?_
  refine zCI X110 hx hZ hml rfl rfl hown (tw hw 130 rfl) (tw hw 131 rfl) (tw hw 129 rfl) (tw hw 133 rfl) (rmMi0 l Z a0 hw [] b110 h110 n0 (Nat.le_trans Z0 E110.1) A110 (D110 (Or.inl (tw hw 138 rfl)) pf_1) (D110 (Or.inl (tw hw 140 rfl)) pf_0) (D110 (Or.inl (tw hw 136 rfl)) pf_0) (Nat.le_trans (Nat.le_trans Z0 (Nat.le_refl _)) (Nat.le_of_eq g110.symm))) 1 (by decide) b110 [.ref b110] rfl rfl (lenOf pd_2 rfl) rfl (Nat.le_of_eq rfl) e110 d4 7 rfl fun T111 L111 v111 X111 ⟨Lc111, hQ111, l111⟩ => ?_
  have X111 := own_reX X111 (rfl : _ = 2) (rfl : _ = 4)
  obtain ⟨ra_111, kr_111, rfl, Nq111, K111, f111_0, f111_1, f111_2, f111_3, f111_4, f111_5, f111_6⟩ := hQ111
  have N111 := own_frApp N0 Nq111 l111
  refine zx [.ref b110] rfl ?_
  have K112 : Keep h0 T111.heap [] := (((Keep.refl h0 []).ext E110).trans K111 (allS (Or.inr (Nat.le_trans (Nat.le_refl _) (Nat.le_of_eq g110.symm))) all0))
  refine zl 8 _ [] (fun t k => XS.astoreN X111.here hx rfl d7 rfl rfl (l' := #[rv a, rv b, rv b110, .unset, .unset]) rfl k) ?_
  obtain ⟨T113, h113, X113, e113, E113, A113, D113, -, st113⟩ := newO X111 hx hZ hown (tw hw 127 rfl) (tw hw 128 rfl) (tw hw 129 rfl) rfl (g := (mkF m 8 #[rv a, rv b, rv b110, .unset, .unset] [])) rfl d8 (by decide) (by decide)
  obtain ⟨b113, g113⟩ : ∃ z, z = T111.heap.size := ⟨_, rfl⟩
  rw [← g113] at A113 D113 st113
  have X113 := own_reX X113 (rfl : _ = 3) (rfl : _ = 7)
  refine zt 11 [.ref b113] st113 ?_
  refine zD X113 hx d11 rfl 12 rfl ?_
  refine zR X113 hx d12 rfl rfl 13 rfl ?_
  have F114 := ((Fm2.keep K112 nin0).ext E113)
  refine zP X113 hx hZ hown (tw hw 49 rfl) e113 F114 d13 16 rfl fun T115 X115 e115 => ?_
  have F116 := ((Ar2.keep K112 nin0).ext E113)
  refine zCI X115 hx hZ hml rfl rfl hown (tw hw 141 rfl) (tw hw 142 rfl) (tw hw 129 rfl) (tw hw 143 rfl) (rmMiA2 l Z a0 hw [] b113 m2 km2 w2 u2 h113 n0 (Nat.le_trans Z0 (Nat.le_trans K112.1 E113.1)) A113 (D113 (Or.inl (tw hw 138 rfl)) pf_1) (D113 (Or.inl (tw hw 140 rfl)) pf_0) (D113 (Or.inl (tw hw 136 rfl)) pf_0) (Nat.le_trans (Nat.le_trans Z0 K112.1) (Nat.le_of_eq g113.symm)) F116 (Nat.ne_of_lt (Nat.lt_of_lt_of_le (Nat.lt_of_lt_of_le Em2.lt K112.1) (Nat.le_of_eq g113.symm)))) 1 (by decide) b113 [.ref b113] rfl rfl (lenOf pd_14 rfl) rfl (Nat.le_of_eq rfl) e115 d16 19 rfl fun T117 L117 v117 X117 ⟨Lc117, hQ117, l117⟩ => ?_
  obtain ⟨rfl, Nq117, K117, f117_0, f117_1, f117_2, f117_3⟩ := hQ117
  have N117 := own_frApp N111 Nq117 l117
  refine zx [.ref b113] rfl ?_
  have K118 : Keep T111.heap T117.heap [] := (((Keep.refl T111.heap []).ext E113).trans K117 (allS (Or.inr (Nat.le_trans (Nat.le_refl _) (Nat.le_of_eq g113.symm))) all0))
  refine zl 20 _ [] (fun t k => XS.astoreN X117.here hx rfl d19 rfl rfl (l' := #[rv a, rv b, rv b110, rv b113, .unset]) rfl k) ?_
  obtain ⟨T119, h119, X119, e119, E119, A119, D119, -, st119⟩ := newO X117 hx hZ hown (tw hw 127 rfl) (tw hw 128 rfl) (tw hw 129 rfl) rfl (g := (mkF m 20 #[rv a, rv b, rv b110, rv b113, .unset] [])) rfl d20 (by decide) (by decide)
  obtain ⟨b119, g119⟩ : ∃ z, z = T117.heap.size := ⟨_, rfl⟩
  rw [← g119] at A119 D119 st119
  have X119 := own_reX X119 (rfl : _ = 4) (rfl : _ = 10)
  refine zt 23 [.ref b119] st119 ?_
  refine zD X119 hx d23 rfl 24 rfl ?_
  refine zR X119 hx d24 rfl rfl 25 rfl ?_
  have F120 := (((Fm1.keep K112 nin0).keep K118 nin0).ext E119)
  refine zP X119 hx hZ hown (tw hw 49 rfl) e119 F120 d25 28 rfl fun T121 X121 e121 => ?_
  have F122 := (((Ar1.keep K112 nin0).keep K118 nin0).ext E119)
  refine zCI X121 hx hZ hml rfl rfl hown (tw hw 141 rfl) (tw hw 142 rfl) (tw hw 129 rfl) (tw hw 143 rfl) (rmMiA1 l Z a0 hw [] b119 m1 km1 (1 : Int32) h119 n0 (Nat.le_trans Z0 (Nat.le_trans (Nat.le_trans K112.1 K118.1) E119.1)) A119 (D119 (Or.inl (tw hw 138 rfl)) pf_1) (D119 (Or.inl (tw hw 140 rfl)) pf_0) (D119 (Or.inl (tw hw 136 rfl)) pf_0) (Nat.le_trans (Nat.le_trans Z0 (Nat.le_trans K112.1 K118.1)) (Nat.le_of_eq g119.symm)) F122 (Nat.ne_of_lt (Nat.lt_of_lt_of_le (Nat.lt_of_lt_of_le Em1.lt (Nat.le_trans K112.1 K118.1)) (Nat.le_of_eq g119.symm)))) 1 (by decide) b119 [.ref b119] rfl rfl (lenOf pd_14 rfl) rfl (Nat.le_of_eq rfl) e121 d28 31 rfl fun T123 L123 v123 X123 ⟨Lc123, hQ123, l123⟩ => ?_
  obtain ⟨rfl, Nq123, K123, f123_0, f123_1, f123_2, f123_3⟩ := hQ123
  have N123 := own_frApp N117 Nq123 l123
  refine zx [.ref b119] rfl ?_
  have K124 : Keep T117.heap T123.heap [] := (((Keep.refl T117.heap []).ext E119).trans K123 (allS (Or.inr (Nat.le_trans (Nat.le_refl _) (Nat.le_of_eq g119.symm))) all0))
  refine zl 33 _ [] (fun t k => XS.astore X123.here hx rfl d31 rfl rfl (l' := #[rv a, rv b, rv b110, rv b113, rv b119]) rfl k) ?_
  refine zR X123 hx d33 rfl rfl 34 rfl ?_
  refine zR2 X123 hx d34 rfl rfl 36 rfl ?_
  refine zR X123 hx d36 rfl rfl 37 rfl ?_
  refine zK X123 hx d37 0 rfl 38 rfl ?_
  have F125 := (f117_0.keep K124)
  have F126 := (f117_1.keep K124 nin0)
  have F127 := (f117_2.keep K124 nin0)
  have F128 := (f117_3.keep K124 nin0)
  have F129 := ((F116.keep K117 (ninS (Nat.ne_of_lt (Nat.lt_of_lt_of_le (Nat.lt_of_lt_of_le Em2.lt K112.1) (Nat.le_of_eq g113.symm))) nin0)).keep K124 nin0)
  have F130 := (F122.keep K123 (ninS (Nat.ne_of_lt (Nat.lt_of_lt_of_le (Nat.lt_of_lt_of_le Em1.lt (Nat.le_trans K112.1 K118.1)) (Nat.le_of_eq g119.symm))) nin0))
  have F131 := ((f111_0.keep K118).keep K124)
  have F132 := ((f111_1.keep K118 nin0).keep K124 nin0)
  have F133 := ((f111_2.keep K118 nin0).keep K124 nin0)
  have F134 := ((f111_3.keep K118 nin0).keep K124 nin0)
  have F135 := ((f111_4.keep K118 nin0).keep K124 nin0)
  refine zCV X123 hx hZ hml hown (tw hw 144 rfl) (tw hw 145 rfl) (tw hw 129 rfl) (tw hw 148 rfl) (tw hw 147 rfl) (tw hw 146 rfl) (rmDk2 l Z a0 hw [] b113 m2 km2 b119 m1 km1 b110 ra_111 kr_111 w2 u2 T123.heap n0 (Nat.le_trans Z0 (Nat.le_trans (Nat.le_trans K112.1 K118.1) K124.1)) F125 F126 F127 F128 F129 hn2 f123_0 f123_1 f123_2 f123_3 F130 F131 F132 F133 F134 F135 (Nat.le_trans (Nat.le_trans Z0 (Nat.le_refl _)) (Nat.le_of_eq g110.symm)) (Nat.le_trans (Nat.le_trans Z0 E110.1) f111_6) (Ne.symm (Nat.ne_of_lt (Nat.lt_of_lt_of_le A110.lt f111_6))) (Nat.ne_of_lt (Nat.lt_of_lt_of_le Em1.lt (Nat.le_of_eq g110.symm))) (Ne.symm (Nat.ne_of_lt (Nat.lt_of_lt_of_le (Nat.lt_of_lt_of_le A110.lt (Nat.le_trans K111.1 K118.1)) (Nat.le_of_eq g119.symm)))) (Nat.ne_of_lt (Nat.lt_of_lt_of_le (Nat.lt_of_lt_of_le Em1.lt E110.1) f111_6)) (Ne.symm (Nat.ne_of_lt (Nat.lt_of_lt_of_le (Nat.lt_of_lt_of_le f111_4.lt K118.1) (Nat.le_of_eq g119.symm)))) (Nat.ne_of_lt (Nat.lt_of_lt_of_le (Nat.lt_of_lt_of_le Em2.lt E110.1) f111_6)) (Nat.ne_of_lt (Nat.lt_of_lt_of_le Em2.lt (Nat.le_of_eq g110.symm))) (Ne.symm (Nat.ne_of_lt (Nat.lt_of_lt_of_le f111_4.lt (Nat.le_of_eq g113.symm)))) (Ne.symm (Nat.ne_of_lt (Nat.lt_of_lt_of_le (Nat.lt_of_lt_of_le A110.lt K111.1) (Nat.le_of_eq g113.symm))))) 0 (by decide) b113 [] rfl rfl (lenOf pd_15 rfl) rfl (Nat.le_of_eq rfl) rfl F125 d38 41 rfl fun T136 L136 v136 X136 ⟨Lc136, hQ136, l136⟩ => ?_
  have X136 := own_reX X136 (rfl : _ = 5) (rfl : _ = 12)
  obtain ⟨ra_136, kr_136, rfl, Nq136, K136, f136_0, f136_1, f136_2, f136_3, f136_4, f136_5, f136_6⟩ := hQ136
  have N136 := own_frApp N123 Nq136 l136
  refine zx [.null] rfl ?_
  refine zq 42 [] (fun t k => XS.pop X136.here hx rfl d41 rfl rfl k) ?_
  refine zR X136 hx d42 rfl rfl 43 rfl ?_
  refine zR X136 hx d43 rfl rfl 44 rfl ?_
  have F137 := ((((Fs2.keep K112 nin0).keep K118 nin0).keep K124 nin0).keep K136 (ninS (Nat.ne_of_lt (Nat.lt_of_lt_of_le (BI.lt p_BI_a) (Nat.le_of_eq g110.symm))) (ninS (Nat.ne_of_lt (Nat.lt_of_lt_of_le (Nat.lt_of_lt_of_le (BI.lt p_BI_a) E110.1) f111_6)) nin0)))
  refine zP X136 hx hZ hown (tw hw 47 rfl) rfl F137 d44 47 rfl fun T138 X138 e138 => ?_
  refine zR X138 hx d47 rfl rfl 48 rfl ?_
  have F139 := ((((Fs1.keep K112 nin0).keep K118 nin0).keep K124 nin0).keep K136 (ninS (Nat.ne_of_lt (Nat.lt_of_lt_of_le (BI.lt p_BI_b) (Nat.le_of_eq g110.symm))) (ninS (Nat.ne_of_lt (Nat.lt_of_lt_of_le (Nat.lt_of_lt_of_le (BI.lt p_BI_b) E110.1) f111_6)) nin0)))
  refine zP X138 hx hZ hown (tw hw 47 rfl) e138 F139 d48 51 rfl fun T140 X140 e140 => ?_
  refine zq 52 [.int ((1 : Int32) * (1 : Int32)), .ref b110] (fun t k => XS.imul X140.here hx rfl d51 rfl k) ?_
  have rw141 : ((1 : Int32) * (1 : Int32)) = (1 : Int32) := (by decide)
  rw [rw141]
  refine zCV X140 hx hZ hml hown (tw hw 149 rfl) (tw hw 150 rfl) (tw hw 129 rfl) (tw hw 153 rfl) (tw hw 152 rfl) (tw hw 151 rfl) (rmTb2 l Z a0 hw [] b110 ra_136 kr_136 (1 : Int32) w2 u2 T136.heap n0 (Nat.le_trans Z0 (Nat.le_trans (Nat.le_trans (Nat.le_trans K112.1 K118.1) K124.1) K136.1)) f136_0 f136_1 f136_2 f136_3 f136_4 (by decide)) 0 (by decide) b110 [] rfl rfl (lenOf pd_12 rfl) rfl (Nat.le_of_eq rfl) e140 f136_0 d52 55 rfl fun T142 L142 v142 X142 ⟨Lc142, hQ142, l142⟩ => ?_
  have X142 := own_reX X142 (rfl : _ = 6) (rfl : _ = 18)
  obtain ⟨r_142, rfl, Nq142, K142, f142_0, f142_1, f142_2, f142_3⟩ := hQ142
  have N142 := own_frApp N136 Nq142 l142
  refine zx [.ref r_142] rfl ?_
  have F144 := (f136_5.keep K142)
  have F145 := (f136_4.keep K142 nin0)
  have B143 : BI Z T142.heap r_142 vv := ⟨ra_136, _, f142_1, f142_3, F144, Or.inr (Or.inr ⟨w2, u2, hn2, F145, Or.inl ⟨f142_2, hv2⟩⟩)⟩
  exact own_finR X142 hx hlk hre rfl rfl d55 rfl ⟨r_142, rfl, N142, ((((((Keep.refl h0 []).trans K112 all0).trans K118 all0).trans K124 all0).trans K136 (allS (Or.inr (Nat.le_trans (Nat.le_refl _) (Nat.le_of_eq g110.symm))) (allS (Or.inr (Nat.le_trans E110.1 f111_6)) all0))).trans K142 all0), B143⟩ (by decide) (by decide)
 ·obtain ⟨T146, h146, X146, e146, E146, A146, D146, -, st146⟩ := newO X0 hx hZ hown (tw hw 127 rfl) (tw hw 128 rfl) (tw hw 129 rfl) e0 (g := (mkF m 0 #[rv a, rv b, .unset, .unset, .unset] [])) rfl d0 (by decide) (by decide)
  obtain ⟨b146, g146⟩ : ∃ z, z = h0.size := ⟨_, rfl⟩
  rw [← g146] at A146 D146 st146
  have X146 := own_reX X146 (rfl : _ = 1) (rfl : _ = 3)
  refine zt 3 [.ref b146] st146 ?_
  refine zD X146 hx d3 rfl 4 rfl ?_
  refine zCI X146 hx hZ hml rfl rfl hown (tw hw 130 rfl) (tw hw 131 rfl) (tw hw 129 rfl) (tw hw 133 rfl) (rmMi0 l Z a0 hw [] b146 h146 n0 (Nat.le_trans Z0 E146.1) A146 (D146 (Or.inl (tw hw 138 rfl)) pf_1) (D146 (Or.inl (tw hw 140 rfl)) pf_0) (D146 (Or.inl (tw hw 136 rfl)) pf_0) (Nat.le_trans (Nat.le_trans Z0 (Nat.le_refl _)) (Nat.le_of_eq g146.symm))) 1 (by decide) b146 [.ref b146] rfl rfl (lenOf pd_2 rfl) rfl (Nat.le_of_eq rfl) e146 d4 7 rfl fun T147 L147 v147 X147 ⟨Lc147, hQ147, l147⟩ => ?_
  have X147 := own_reX X147 (rfl : _ = 2) (rfl : _ = 4)
  obtain ⟨ra_147, kr_147, rfl, Nq147, K147, f147_0, f147_1, f147_2, f147_3, f147_4, f147_5, f147_6⟩ := hQ147
  have N147 := own_frApp N0 Nq147 l147
  refine zx [.ref b146] rfl ?_
  have K148 : Keep h0 T147.heap [] := (((Keep.refl h0 []).ext E146).trans K147 (allS (Or.inr (Nat.le_trans (Nat.le_refl _) (Nat.le_of_eq g146.symm))) all0))
  refine zl 8 _ [] (fun t k => XS.astoreN X147.here hx rfl d7 rfl rfl (l' := #[rv a, rv b, rv b146, .unset, .unset]) rfl k) ?_
  obtain ⟨T149, h149, X149, e149, E149, A149, D149, -, st149⟩ := newO X147 hx hZ hown (tw hw 127 rfl) (tw hw 128 rfl) (tw hw 129 rfl) rfl (g := (mkF m 8 #[rv a, rv b, rv b146, .unset, .unset] [])) rfl d8 (by decide) (by decide)
  obtain ⟨b149, g149⟩ : ∃ z, z = T147.heap.size := ⟨_, rfl⟩
  rw [← g149] at A149 D149 st149
  have X149 := own_reX X149 (rfl : _ = 3) (rfl : _ = 7)
  refine zt 11 [.ref b149] st149 ?_
  refine zD X149 hx d11 rfl 12 rfl ?_
  refine zR X149 hx d12 rfl rfl 13 rfl ?_
  have F150 := ((Fm2.keep K148 nin0).ext E149)
  refine zP X149 hx hZ hown (tw hw 49 rfl) e149 F150 d13 16 rfl fun T151 X151 e151 => ?_
  have F152 := ((Ar2.keep K148 nin0).ext E149)
  refine zCI X151 hx hZ hml rfl rfl hown (tw hw 141 rfl) (tw hw 142 rfl) (tw hw 129 rfl) (tw hw 143 rfl) (rmMiA2 l Z a0 hw [] b149 m2 km2 w2 u2 h149 n0 (Nat.le_trans Z0 (Nat.le_trans K148.1 E149.1)) A149 (D149 (Or.inl (tw hw 138 rfl)) pf_1) (D149 (Or.inl (tw hw 140 rfl)) pf_0) (D149 (Or.inl (tw hw 136 rfl)) pf_0) (Nat.le_trans (Nat.le_trans Z0 K148.1) (Nat.le_of_eq g149.symm)) F152 (Nat.ne_of_lt (Nat.lt_of_lt_of_le (Nat.lt_of_lt_of_le Em2.lt K148.1) (Nat.le_of_eq g149.symm)))) 1 (by decide) b149 [.ref b149] rfl rfl (lenOf pd_14 rfl) rfl (Nat.le_of_eq rfl) e151 d16 19 rfl fun T153 L153 v153 X153 ⟨Lc153, hQ153, l153⟩ => ?_
  obtain ⟨rfl, Nq153, K153, f153_0, f153_1, f153_2, f153_3⟩ := hQ153
  have N153 := own_frApp N147 Nq153 l153
  refine zx [.ref b149] rfl ?_
  have K154 : Keep T147.heap T153.heap [] := (((Keep.refl T147.heap []).ext E149).trans K153 (allS (Or.inr (Nat.le_trans (Nat.le_refl _) (Nat.le_of_eq g149.symm))) all0))
  refine zl 20 _ [] (fun t k => XS.astoreN X153.here hx rfl d19 rfl rfl (l' := #[rv a, rv b, rv b146, rv b149, .unset]) rfl k) ?_
  obtain ⟨T155, h155, X155, e155, E155, A155, D155, -, st155⟩ := newO X153 hx hZ hown (tw hw 127 rfl) (tw hw 128 rfl) (tw hw 129 rfl) rfl (g := (mkF m 20 #[rv a, rv b, rv b146, rv b149, .unset] [])) rfl d20 (by decide) (by decide)
  obtain ⟨b155, g155⟩ : ∃ z, z = T153.heap.size := ⟨_, rfl⟩
  rw [← g155] at A155 D155 st155
  have X155 := own_reX X155 (rfl : _ = 4) (rfl : _ = 10)
  refine zt 23 [.ref b155] st155 ?_
  refine zD X155 hx d23 rfl 24 rfl ?_
  refine zR X155 hx d24 rfl rfl 25 rfl ?_
  have F156 := (((Fm1.keep K148 nin0).keep K154 nin0).ext E155)
  refine zP X155 hx hZ hown (tw hw 49 rfl) e155 F156 d25 28 rfl fun T157 X157 e157 => ?_
  have F158 := (((Ar1.keep K148 nin0).keep K154 nin0).ext E155)
  refine zCI X157 hx hZ hml rfl rfl hown (tw hw 141 rfl) (tw hw 142 rfl) (tw hw 129 rfl) (tw hw 143 rfl) (rmMiA1 l Z a0 hw [] b155 m1 km1 (1 : Int32) h155 n0 (Nat.le_trans Z0 (Nat.le_trans (Nat.le_trans K148.1 K154.1) E155.1)) A155 (D155 (Or.inl (tw hw 138 rfl)) pf_1) (D155 (Or.inl (tw hw 140 rfl)) pf_0) (D155 (Or.inl (tw hw 136 rfl)) pf_0) (Nat.le_trans (Nat.le_trans Z0 (Nat.le_trans K148.1 K154.1)) (Nat.le_of_eq g155.symm)) F158 (Nat.ne_of_lt (Nat.lt_of_lt_of_le (Nat.lt_of_lt_of_le Em1.lt (Nat.le_trans K148.1 K154.1)) (Nat.le_of_eq g155.symm)))) 1 (by decide) b155 [.ref b155] rfl rfl (lenOf pd_14 rfl) rfl (Nat.le_of_eq rfl) e157 d28 31 rfl fun T159 L159 v159 X159 ⟨Lc159, hQ159, l159⟩ => ?_
  obtain ⟨rfl, Nq159, K159, f159_0, f159_1, f159_2, f159_3⟩ := hQ159
  have N159 := own_frApp N153 Nq159 l159
  refine zx [.ref b155] rfl ?_
  have K160 : Keep T153.heap T159.heap [] := (((Keep.refl T153.heap []).ext E155).trans K159 (allS (Or.inr (Nat.le_trans (Nat.le_refl _) (Nat.le_of_eq g155.symm))) all0))
  refine zl 33 _ [] (fun t k => XS.astore X159.here hx rfl d31 rfl rfl (l' := #[rv a, rv b, rv b146, rv b149, rv b155]) rfl k) ?_
  refine zR X159 hx d33 rfl rfl 34 rfl ?_
  refine zR2 X159 hx d34 rfl rfl 36 rfl ?_
  refine zR X159 hx d36 rfl rfl 37 rfl ?_
  refine zK X159 hx d37 0 rfl 38 rfl ?_
  have F161 := (f153_0.keep K160)
  have F162 := (f153_1.keep K160 nin0)
  have F163 := (f153_2.keep K160 nin0)
  have F164 := (f153_3.keep K160 nin0)
  have F165 := ((F152.keep K153 (ninS (Nat.ne_of_lt (Nat.lt_of_lt_of_le (Nat.lt_of_lt_of_le Em2.lt K148.1) (Nat.le_of_eq g149.symm))) nin0)).keep K160 nin0)
  have F166 := (F158.keep K159 (ninS (Nat.ne_of_lt (Nat.lt_of_lt_of_le (Nat.lt_of_lt_of_le Em1.lt (Nat.le_trans K148.1 K154.1)) (Nat.le_of_eq g155.symm))) nin0))
  have F167 := ((f147_0.keep K154).keep K160)
  have F168 := ((f147_1.keep K154 nin0).keep K160 nin0)
  have F169 := ((f147_2.keep K154 nin0).keep K160 nin0)
  have F170 := ((f147_3.keep K154 nin0).keep K160 nin0)
  have F171 := ((f147_4.keep K154 nin0).keep K160 nin0)
  refine zCV X159 hx hZ hml hown (tw hw 144 rfl) (tw hw 145 rfl) (tw hw 129 rfl) (tw hw 148 rfl) (tw hw 147 rfl) (tw hw 146 rfl) (rmDk2 l Z a0 hw [] b149 m2 km2 b155 m1 km1 b146 ra_147 kr_147 w2 u2 T159.heap n0 (Nat.le_trans Z0 (Nat.le_trans (Nat.le_trans K148.1 K154.1) K160.1)) F161 F162 F163 F164 F165 hn2 f159_0 f159_1 f159_2 f159_3 F166 F167 F168 F169 F170 F171 (Nat.le_trans (Nat.le_trans Z0 (Nat.le_refl _)) (Nat.le_of_eq g146.symm)) (Nat.le_trans (Nat.le_trans Z0 E146.1) f147_6) (Ne.symm (Nat.ne_of_lt (Nat.lt_of_lt_of_le A146.lt f147_6))) (Nat.ne_of_lt (Nat.lt_of_lt_of_le Em1.lt (Nat.le_of_eq g146.symm))) (Ne.symm (Nat.ne_of_lt (Nat.lt_of_lt_of_le (Nat.lt_of_lt_of_le A146.lt (Nat.le_trans K147.1 K154.1)) (Nat.le_of_eq g155.symm)))) (Nat.ne_of_lt (Nat.lt_of_lt_of_le (Nat.lt_of_lt_of_le Em1.lt E146.1) f147_6)) (Ne.symm (Nat.ne_of_lt (Nat.lt_of_lt_of_le (Nat.lt_of_lt_of_le f147_4.lt K154.1) (Nat.le_of_eq g155.symm)))) (Nat.ne_of_lt (Nat.lt_of_lt_of_le (Nat.lt_of_lt_of_le Em2.lt E146.1) f147_6)) (Nat.ne_of_lt (Nat.lt_of_lt_of_le Em2.lt (Nat.le_of_eq g146.symm))) (Ne.symm (Nat.ne_of_lt (Nat.lt_of_lt_of_le f147_4.lt (Nat.le_of_eq g149.symm)))) (Ne.symm (Nat.ne_of_lt (Nat.lt_of_lt_of_le (Nat.lt_of_lt_of_le A146.lt K147.1) (Nat.le_of_eq g149.symm))))) 0 (by decide) b149 [] rfl rfl (lenOf pd_15 rfl) rfl (Nat.le_of_eq rfl) rfl F161 d38 41 rfl fun T172 L172 v172 X172 ⟨Lc172, hQ172, l172⟩ => ?_
  have X172 := own_reX X172 (rfl : _ = 5) (rfl : _ = 12)
  obtain ⟨ra_172, kr_172, rfl, Nq172, K172, f172_0, f172_1, f172_2, f172_3, f172_4, f172_5, f172_6⟩ := hQ172
  have N172 := own_frApp N159 Nq172 l172
  refine zx [.null] rfl ?_
  refine zq 42 [] (fun t k => XS.pop X172.here hx rfl d41 rfl rfl k) ?_
  refine zR X172 hx d42 rfl rfl 43 rfl ?_
  refine zR X172 hx d43 rfl rfl 44 rfl ?_
  have F173 := ((((Fs2.keep K148 nin0).keep K154 nin0).keep K160 nin0).keep K172 (ninS (Nat.ne_of_lt (Nat.lt_of_lt_of_le (BI.lt p_BI_a) (Nat.le_of_eq g146.symm))) (ninS (Nat.ne_of_lt (Nat.lt_of_lt_of_le (Nat.lt_of_lt_of_le (BI.lt p_BI_a) E146.1) f147_6)) nin0)))
  refine zP X172 hx hZ hown (tw hw 47 rfl) rfl F173 d44 47 rfl fun T174 X174 e174 => ?_
  refine zR X174 hx d47 rfl rfl 48 rfl ?_
  have F175 := ((((Fs1.keep K148 nin0).keep K154 nin0).keep K160 nin0).keep K172 (ninS (Nat.ne_of_lt (Nat.lt_of_lt_of_le (BI.lt p_BI_b) (Nat.le_of_eq g146.symm))) (ninS (Nat.ne_of_lt (Nat.lt_of_lt_of_le (Nat.lt_of_lt_of_le (BI.lt p_BI_b) E146.1) f147_6)) nin0)))
  refine zP X174 hx hZ hown (tw hw 47 rfl) e174 F175 d48 51 rfl fun T176 X176 e176 => ?_
  refine zq 52 [.int ((-1 : Int32) * (1 : Int32)), .ref b146] (fun t k => XS.imul X176.here hx rfl d51 rfl k) ?_
  have rw177 : ((-1 : Int32) * (1 : Int32)) = (-1 : Int32) := (by decide)
  rw [rw177]
  refine zCV X176 hx hZ hml hown (tw hw 149 rfl) (tw hw 150 rfl) (tw hw 129 rfl) (tw hw 153 rfl) (tw hw 152 rfl) (tw hw 151 rfl) (rmTb2 l Z a0 hw [] b146 ra_172 kr_172 (-1 : Int32) w2 u2 T172.heap n0 (Nat.le_trans Z0 (Nat.le_trans (Nat.le_trans (Nat.le_trans K148.1 K154.1) K160.1) K172.1)) f172_0 f172_1 f172_2 f172_3 f172_4 (by decide)) 0 (by decide) b146 [] rfl rfl (lenOf pd_12 rfl) rfl (Nat.le_of_eq rfl) e176 f172_0 d52 55 rfl fun T178 L178 v178 X178 ⟨Lc178, hQ178, l178⟩ => ?_
  have X178 := own_reX X178 (rfl : _ = 6) (rfl : _ = 18)
  obtain ⟨r_178, rfl, Nq178, K178, f178_0, f178_1, f178_2, f178_3⟩ := hQ178
  have N178 := own_frApp N172 Nq178 l178
  refine zx [.ref r_178] rfl ?_
  have F180 := (f172_5.keep K178)
  have F181 := (f172_4.keep K178 nin0)
  have B179 : BI Z T178.heap r_178 vv := ⟨ra_172, _, f178_1, f178_3, F180, Or.inr (Or.inr ⟨w2, u2, hn2, F181, Or.inr ⟨f178_2, hv2⟩⟩)⟩
  exact own_finR X178 hx hlk hre rfl rfl d55 rfl ⟨r_178, rfl, N178, ((((((Keep.refl h0 []).trans K148 all0).trans K154 all0).trans K160 all0).trans K172 (allS (Or.inr (Nat.le_trans (Nat.le_refl _) (Nat.le_of_eq g146.symm))) (allS (Or.inr (Nat.le_trans E146.1 f147_6)) all0))).trans K178 all0), B179⟩ (by decide) (by decide)
def QrmDiv (Z : State) (a : Addr) (b : Addr) (vv : Int) (h0 : Heap) (n0 : Nat) (v : Option Value) (h : Heap) (L : List Loc) : Prop := ∃ g : Addr, v = some (.ref g) ∧ Fr n0 L ∧ Keep h0 h [] ∧ (BI Z h g vv)
abbrev RrmDiv : Room := { frames := 5, cells := 6, slots := 18, locals := 76 }
theorem rmDiv (l : Launch) (Z : State) (a0 : Array Value) (hw : ∀ d ∈ tables_1, d.before a0 Z = true) (ws : List Jvm.Cond) (a : Addr) (b : Addr) (vv : Int) (h0 : Heap) (n0 : Nat) (Z0 : n0 ≤ h0.size) (zA oA pA nA : Addr) (kP kN : ClassId) (vP vN : List Value) (G0 : Gl Z zA oA pA nA kP kN vP vN) (X00 : Old Z n0 h0) (p_BI_a : BI Z h0 a vv) (p_BI_b : BI Z h0 b (1 : Int)) : Mf l Z Nm28 jdk_2097_method_61_code 2 (Option.some (Jvm.ClassFile.FieldType.object "java/math/BigInteger")) ws RrmDiv #[(.ref a), (.ref b)] h0 (QrmDiv Z a b vv h0 n0) := by
 refine own_entry (plainFor_of_name pn_java_math_BigInteger) #[rv a, rv b] (fun _ => rfl) fun p e s m below meth c s₁ hx hby hml hown hnm hlk hre hZ X0 e0 => ?_
 have N0 := Fr.nil n0
 obtain ⟨d0, d1, d4, d5, d7, d26, d27, d28, d31, -⟩ := D_28 hby
 obtain ⟨SZ, BZ, SO, BO, SP, AP, hcP, SN, AN, hcN⟩ := id G0
 obtain ⟨m1, km1, Eb1, Fm1, Em1, Fs1, Ar1⟩ := BI.one p_BI_b
 refine zR X0 hx d0 rfl rfl 1 rfl ?_
 refine zP X0 hx hZ hown (tw hw 49 rfl) e0 Fm1 d1 4 rfl fun T2 X2 e2 => ?_
 refine zLn X2 hx hZ e2 Ar1 d4 5 rfl ?_
 refine zq 7 [.int 80, .int 1] (fun t k => XS.bipush X2.here hx rfl d5 k) ?_
 refine zCY X2 hx d7 (tlt (by decide : ((1 : Int32) < (80 : Int32)))).1 26 (by decide) ?_
 refine zR X2 hx d26 rfl rfl 27 rfl ?_
 refine zR X2 hx d27 rfl rfl 28 rfl ?_
 refine zCP X2 hx hZ hml hown (tw hw 122 rfl) (tw hw 124 rfl) (tw hw 13 rfl) (tw hw 126 rfl) (tw hw 125 rfl) (tw hw 123 rfl) (rmBdk l Z a0 hw [] a b vv h0 n0 Z0 zA oA pA nA kP kN vP vN G0 X00 p_BI_a p_BI_b) 0 (by decide) a [] rfl rfl (lenOf pd_16 rfl) rfl (Nat.le_of_eq rfl) e2 (BI.exa p_BI_a) d28 31 rfl fun T4 L4 v4 X4 ⟨Lc4, hQ4, l4⟩ => ?_
 have X4 := own_reX X4 (rfl : _ = 6) (rfl : _ = 18)
 obtain ⟨g_4, rfl, Nq4, K4, f4_0⟩ := hQ4
 have N4 := own_frApp N0 Nq4 l4
 refine zx [.ref g_4] rfl ?_
 exact own_finR X4 hx hlk hre rfl rfl d31 rfl ⟨g_4, rfl, N4, ((Keep.refl h0 []).trans K4 all0), f4_0⟩ (by decide) (by decide)
def QrmBiJ (Z : State) (a1 : Addr) (pj : Int64) (h0 : Heap) (n0 : Nat) (v : Option Value) (h : Heap) (L : List Loc) : Prop := v = none ∧ Fr n0 L ∧ Keep h0 h [a1] ∧ (BI Z h a1 (pj.toInt))
abbrev RrmBiJ : Room := { frames := 2, cells := 1, slots := 2, locals := 24 }
theorem rmBiJ (l : Launch) (Z : State) (a0 : Array Value) (hw : ∀ d ∈ tables_1, d.before a0 Z = true) (ws : List Jvm.Cond) (a1 : Addr) (pj : Int64) (h0 : Heap) (n0 : Nat) (Z0 : n0 ≤ h0.size)  (p_Exa_a1 : Exa Z h0 a1 "java/math/BigInteger") (p_Fld_a1_signum : Fld Z h0 a1 "java/math/BigInteger" "signum" "I" (.int (0 : Int32))) (p_Fld_a1_mag : Fld Z h0 a1 "java/math/BigInteger" "mag" "[I" .null) (ge1 : n0 ≤ a1) (hp : ¬ pj = (0 : Int64)) : Mf l Z Nm29 jdk_2097_method_30_code 4 (Option.none : Option Jvm.ClassFile.FieldType) ws RrmBiJ #[(.ref a1), (.long pj)] h0 (QrmBiJ Z a1 pj h0 n0) := by
 refine own_entry (plainFor_of_name pn_java_math_BigInteger) #[rv a1, .val (.long pj), .second, .unset] (fun _ => rfl) fun p e s m below meth c s₁ hx hby hml hown hnm hlk hre hZ X0 e0 => ?_
 have N0 := Fr.nil n0
 obtain ⟨d0, d1, d4, d5, d6, d7, d10, d11, d12, d13, d14, d15, d18, d21, d22, d23, d26, d27, d29, d30, d31, d32, d33, d36, d37, d38, d40, d43, d44, d47, d48, d49, d50, d51, d54, d55, d56, d58, d61, d62, d65, d66, d67, d68, d69, d72, d73, d74, d75, d76, -⟩ := D_29 hby
 refine zR X0 hx d0 rfl rfl 1 rfl ?_
 refine zCI X0 hx hZ hml rfl rfl hown (tw hw 78 rfl) (tw hw 79 rfl) (tw hw 82 rfl) (tw hw 83 rfl) (rmNum l Z a0 hw [] a1 h0 n0 Z0) 0 (by decide) a1 [] rfl rfl (lenOf pd_2 rfl) rfl (Nat.le_of_eq rfl) e0 d1 4 rfl fun T1 L1 v1 X1 ⟨Lc1, hQ1, l1⟩ => ?_
 obtain ⟨rfl, Nq1, eh1⟩ := hQ1
 have N1 := own_frApp N0 Nq1 l1
 refine zx [] rfl ?_
 refine zJ X1 hx d4 rfl 5 rfl ?_
 refine zq 6 [.long 0, .long pj] (fun t k => XS.lconst X1.here hx rfl d5 k) ?_
 refine zq 7 [.int (lcmpW pj (0 : Int64))] (fun t k => XS.lcmp X1.here hx rfl d6 rfl k) ?_
 by_cases c2 : (lcmpW pj (0 : Int64)) < (0 : Int32)
 ·refine zN X1 hx d7 ((if0 _ _).trans (tlt c2).2.1) 10 rfl ?_
  refine zJ X1 hx d10 rfl 11 rfl ?_
  refine zq 12 [.long (-pj)] (fun t k => XS.lneg X1.here hx rfl d11 rfl k) ?_
  refine zl 13 _ [] (fun t k => XS.lstoreN X1.here hx rfl d12 rfl (l' := #[rv a1, .val (.long (-pj)), .second, .unset]) rfl k) ?_
  refine zR X1 hx d13 rfl rfl 14 rfl ?_
  refine zK X1 hx d14 (-1 : Int32) rfl 15 rfl ?_
  obtain ⟨T3, h3, X3, e3, W3, st3⟩ := putF X1 hx hZ hown (host := "") (Or.inl (tw hw 47 rfl)) Via.refl eh1 p_Fld_a1_signum p_Exa_a1 (Or.inr ⟨(tw hw 48 rfl), rfl, hnm⟩) (tw hw 62 rfl) pf_0 rfl rfl (g := (mkF m 15 #[rv a1, .val (.long (-pj)), .second, .unset] [.int (-1), .ref a1])) rfl rfl d15
  have N3 := Fr.snoc X3 N1 ge1
  have Fw3 : Fld Z h3 a1 "java/math/BigInteger" "signum" "I" (.int (-1 : Int32)) := p_Fld_a1_signum.same W3
  refine zt 18 [] st3 ?_
  refine zG X3 hx d18 26 (by decide) ?_
  refine zJ X3 hx d26 rfl 27 rfl ?_
  refine zq 29 [.int 32, .long (-pj)] (fun t k => XS.bipush X3.here hx rfl d27 k) ?_
  refine zq 30 [.long (((-pj).toUInt64 >>> ((32 : Int32) &&& 0x3f).toInt64.toUInt64).toInt64)] (fun t k => XS.lushr X3.here hx rfl d29 rfl k) ?_
  refine zq 31 [.int ((((-pj).toUInt64 >>> ((32 : Int32) &&& 0x3f).toInt64.toUInt64).toInt64).toInt32)] (fun t k => XS.l2i X3.here hx rfl d30 rfl k) ?_
  refine zl 32 _ [] (fun t k => XS.istoreN X3.here hx rfl d31 rfl (l' := #[rv a1, .val (.long (-pj)), .second, iv ((((-pj).toUInt64 >>> ((32 : Int32) &&& 0x3f).toInt64.toUInt64).toInt64).toInt32)]) rfl k) ?_
  refine zI X3 hx d32 rfl 33 rfl ?_
  by_cases c4 : ((((-pj).toUInt64 >>> ((32 : Int32) &&& 0x3f).toInt64.toUInt64).toInt64).toInt32) = (0 : Int32)
  ·refine zN X3 hx d33 ((if0 _ _).trans (teq c4).2) 36 rfl ?_
   refine zR X3 hx d36 rfl rfl 37 rfl ?_
   refine zK X3 hx d37 1 rfl 38 rfl ?_
   obtain ⟨T5, h5, k5, X5, e5, E5, A5, Ex5, st5⟩ := newPE X3 hx hZ (tw hw 69 rfl) e3 (g := (mkF m 38 #[rv a1, .val (.long (-pj)), .second, iv ((((-pj).toUInt64 >>> ((32 : Int32) &&& 0x3f).toInt64.toUInt64).toInt64).toInt32)] [.int 1, .ref a1])) rfl d38 rfl (by decide : ¬ ((1 : Int32) < (0 : Int32))) (cap := 1) (by decide) (by decide) (by decide) (by decide) (ad := "[I") (by decide)
   obtain ⟨b5, g5⟩ : ∃ z, z = h3.size := ⟨_, rfl⟩
   rw [← g5] at A5 Ex5 st5
   have X5 := own_reX X5 (rfl : _ = 1) (rfl : _ = 1)
   have V5 : Arv Z h5 b5 k5 .int (1 : Int32) [(.int (0 : Int32))] (.int (0 : Int32)) := (Arv.new A5 (by decide : ¬ ((1 : Int32) < (0 : Int32)))).pad (pad_rep [] (.int (0 : Int32)) 1)
   refine zt 40 [.ref b5, .ref a1] st5 ?_
   have F6 := ((p_Exa_a1.wr W3).ext E5)
   have F7 := ((p_Fld_a1_mag.other W3 (Or.inr (sn_java_math_BigInteger_mag__signum hw))).ext E5)
   obtain ⟨T8, h8, X8, e8, W8, st8⟩ := putF X5 hx hZ hown (host := "") (Or.inl (tw hw 49 rfl)) Via.refl e5 F7 F6 (Or.inr ⟨(tw hw 50 rfl), rfl, hnm⟩) (tw hw 62 rfl) pf_1 rfl rfl (g := (mkF m 40 #[rv a1, .val (.long (-pj)), .second, iv ((((-pj).toUInt64 >>> ((32 : Int32) &&& 0x3f).toInt64.toUInt64).toInt64).toInt32)] [.ref b5, .ref a1])) rfl rfl d40
   have N8 := Fr.snoc X8 N3 ge1
   have Fw8 : Fld Z h8 a1 "java/math/BigInteger" "mag" "[I" (.ref b5) := F7.same W8
   refine zt 43 [] st8 ?_
   refine zR X8 hx d43 rfl rfl 44 rfl ?_
   refine zP X8 hx hZ hown (tw hw 49 rfl) e8 Fw8 d44 47 rfl fun T9 X9 e9 => ?_
   refine zK X9 hx d47 0 rfl 48 rfl ?_
   refine zJ X9 hx d48 rfl 49 rfl ?_
   refine zq 50 [.int ((-pj).toInt32), .int 0, .ref b5] (fun t k => XS.l2i X9.here hx rfl d49 rfl k) ?_
   have F10 := (V5.other W8 (Ne.symm (Nat.ne_of_lt (Nat.lt_of_lt_of_le (Nat.lt_of_lt_of_le p_Exa_a1.lt (Nat.le_of_eq W3.size.symm)) (Nat.le_of_eq g5.symm)))))
   obtain ⟨cl11, Ar11, q11, S11, M11, H11, Gx11⟩ := id F10
   obtain ⟨T12, h12, X12, e12, W12, st12⟩ := stI X9 hx hZ e9 Ar11 (j := (0 : Int32)) (inb_of S11 ⟨by decide, by decide⟩) (g := (mkF m 50 #[rv a1, .val (.long (-pj)), .second, iv ((((-pj).toUInt64 >>> ((32 : Int32) &&& 0x3f).toInt64.toUInt64).toInt64).toInt32)] [.int ((-pj).toInt32), .int 0, .ref b5])) rfl rfl d50
   have N12 := Fr.snoc X12 N8 (Nat.le_trans (Nat.le_trans Z0 (Nat.le_of_eq W3.size.symm)) (Nat.le_of_eq g5.symm))
   have V12 : Arv Z h12 b5 k5 .int (1 : Int32) [(.int ((-pj).toInt32))] (.int (0 : Int32)) := Arv.set Ar11 q11 S11 M11 H11 Gx11 rfl W12 0 rfl (Nat.le_of_ble_eq_true rfl)
   refine zt 51 [] st12 ?_
   refine zG X12 hx d51 76 (by decide) ?_
   have F14 := ((F6.wr W8).wr W12)
   have F15 := (((Fw3.ext E5).other W8 (Or.inr (sn_java_math_BigInteger_signum__mag hw))).other W12 (Or.inl (Nat.ne_of_lt (Nat.lt_of_lt_of_le (Nat.lt_of_lt_of_le p_Exa_a1.lt (Nat.le_of_eq W3.size.symm)) (Nat.le_of_eq g5.symm)))))
   have F16 := (Fw8.other W12 (Or.inl (Nat.ne_of_lt (Nat.lt_of_lt_of_le (Nat.lt_of_lt_of_le p_Exa_a1.lt (Nat.le_of_eq W3.size.symm)) (Nat.le_of_eq g5.symm)))))
   have F17 := ((Ex5.wr W8).wr W12)
   have B13 : BI Z h12 a1 (pj.toInt) := ⟨b5, _, F14, F16, F17, Or.inr (Or.inl ⟨((-pj).toInt32), (lo_ne c4 (Jneg_ne hp)), V12, Or.inr ⟨F15, (bij_n1 ((lw_lt _ _).mp c2) c4)⟩⟩)⟩
   exact own_finV X12 hx hlk hre d76 e12 (K := _) ⟨rfl, N12, (((((Keep.refl h0 [a1]).wr W3 (Or.inl (List.mem_of_getElem? (i := 0) rfl))).ext E5).wr W8 (Or.inl (List.mem_of_getElem? (i := 0) rfl))).wr W12 (Or.inr (Nat.le_trans (Nat.le_of_eq W3.size.symm) (Nat.le_of_eq g5.symm)))), B13⟩ (by decide) (by decide)
  ·refine zY X3 hx d33 ((if0 _ _).trans (feq c4).2) 54 (by decide) ?_
   refine zR X3 hx d54 rfl rfl 55 rfl ?_
   refine zK X3 hx d55 2 rfl 56 rfl ?_
   obtain ⟨T18, h18, k18, X18, e18, E18, A18, Ex18, st18⟩ := newPE X3 hx hZ (tw hw 69 rfl) e3 (g := (mkF m 56 #[rv a1, .val (.long (-pj)), .second, iv ((((-pj).toUInt64 >>> ((32 : Int32) &&& 0x3f).toInt64.toUInt64).toInt64).toInt32)] [.int 2, .ref a1])) rfl d56 rfl (by decide : ¬ ((2 : Int32) < (0 : Int32))) (cap := 2) (by decide) (by decide) (by decide) (by decide) (ad := "[I") (by decide)
   obtain ⟨b18, g18⟩ : ∃ z, z = h3.size := ⟨_, rfl⟩
   rw [← g18] at A18 Ex18 st18
   have X18 := own_reX X18 (rfl : _ = 1) (rfl : _ = 2)
   have V18 : Arv Z h18 b18 k18 .int (2 : Int32) [(.int (0 : Int32)), (.int (0 : Int32))] (.int (0 : Int32)) := (Arv.new A18 (by decide : ¬ ((2 : Int32) < (0 : Int32)))).pad (pad_rep [] (.int (0 : Int32)) 2)
   refine zt 58 [.ref b18, .ref a1] st18 ?_
   have F19 := ((p_Exa_a1.wr W3).ext E18)
   have F20 := ((p_Fld_a1_mag.other W3 (Or.inr (sn_java_math_BigInteger_mag__signum hw))).ext E18)
   obtain ⟨T21, h21, X21, e21, W21, st21⟩ := putF X18 hx hZ hown (host := "") (Or.inl (tw hw 49 rfl)) Via.refl e18 F20 F19 (Or.inr ⟨(tw hw 50 rfl), rfl, hnm⟩) (tw hw 62 rfl) pf_1 rfl rfl (g := (mkF m 58 #[rv a1, .val (.long (-pj)), .second, iv ((((-pj).toUInt64 >>> ((32 : Int32) &&& 0x3f).toInt64.toUInt64).toInt64).toInt32)] [.ref b18, .ref a1])) rfl rfl d58
   have N21 := Fr.snoc X21 N3 ge1
   have Fw21 : Fld Z h21 a1 "java/math/BigInteger" "mag" "[I" (.ref b18) := F20.same W21
   refine zt 61 [] st21 ?_
   refine zR X21 hx d61 rfl rfl 62 rfl ?_
   refine zP X21 hx hZ hown (tw hw 49 rfl) e21 Fw21 d62 65 rfl fun T22 X22 e22 => ?_
   refine zK X22 hx d65 0 rfl 66 rfl ?_
   refine zI X22 hx d66 rfl 67 rfl ?_
   have F23 := (V18.other W21 (Ne.symm (Nat.ne_of_lt (Nat.lt_of_lt_of_le (Nat.lt_of_lt_of_le p_Exa_a1.lt (Nat.le_of_eq W3.size.symm)) (Nat.le_of_eq g18.symm)))))
   obtain ⟨cl24, Ar24, q24, S24, M24, H24, Gx24⟩ := id F23
   obtain ⟨T25, h25, X25, e25, W25, st25⟩ := stI X22 hx hZ e22 Ar24 (j := (0 : Int32)) (inb_of S24 ⟨by decide, by decide⟩) (g := (mkF m 67 #[rv a1, .val (.long (-pj)), .second, iv ((((-pj).toUInt64 >>> ((32 : Int32) &&& 0x3f).toInt64.toUInt64).toInt64).toInt32)] [.int ((((-pj).toUInt64 >>> ((32 : Int32) &&& 0x3f).toInt64.toUInt64).toInt64).toInt32), .int 0, .ref b18])) rfl rfl d67
   have N25 := Fr.snoc X25 N21 (Nat.le_trans (Nat.le_trans Z0 (Nat.le_of_eq W3.size.symm)) (Nat.le_of_eq g18.symm))
   have V25 : Arv Z h25 b18 k18 .int (2 : Int32) [(.int ((((-pj).toUInt64 >>> ((32 : Int32) &&& 0x3f).toInt64.toUInt64).toInt64).toInt32)), (.int (0 : Int32))] (.int (0 : Int32)) := Arv.set Ar24 q24 S24 M24 H24 Gx24 rfl W25 0 rfl (Nat.le_of_ble_eq_true rfl)
   refine zt 68 [] st25 ?_
   refine zR X25 hx d68 rfl rfl 69 rfl ?_
   have F26 := (Fw21.other W25 (Or.inl (Nat.ne_of_lt (Nat.lt_of_lt_of_le (Nat.lt_of_lt_of_le p_Exa_a1.lt (Nat.le_of_eq W3.size.symm)) (Nat.le_of_eq g18.symm)))))
   refine zP X25 hx hZ hown (tw hw 49 rfl) e25 F26 d69 72 rfl fun T27 X27 e27 => ?_
   refine zK X27 hx d72 1 rfl 73 rfl ?_
   refine zJ X27 hx d73 rfl 74 rfl ?_
   refine zq 75 [.int ((-pj).toInt32), .int 1, .ref b18] (fun t k => XS.l2i X27.here hx rfl d74 rfl k) ?_
   obtain ⟨cl28, Ar28, q28, S28, M28, H28, Gx28⟩ := id V25
   obtain ⟨T29, h29, X29, e29, W29, st29⟩ := stI X27 hx hZ e27 Ar28 (j := (1 : Int32)) (inb_of S28 ⟨by decide, by decide⟩) (g := (mkF m 75 #[rv a1, .val (.long (-pj)), .second, iv ((((-pj).toUInt64 >>> ((32 : Int32) &&& 0x3f).toInt64.toUInt64).toInt64).toInt32)] [.int ((-pj).toInt32), .int 1, .ref b18])) rfl rfl d75
   have N29 := Fr.snoc X29 N25 (Nat.le_trans (Nat.le_trans Z0 (Nat.le_of_eq W3.size.symm)) (Nat.le_of_eq g18.symm))
   have V29 : Arv Z h29 b18 k18 .int (2 : Int32) [(.int ((((-pj).toUInt64 >>> ((32 : Int32) &&& 0x3f).toInt64.toUInt64).toInt64).toInt32)), (.int ((-pj).toInt32))] (.int (0 : Int32)) := Arv.set Ar28 q28 S28 M28 H28 Gx28 rfl W29 1 rfl (Nat.le_of_ble_eq_true rfl)
   refine zt 76 [] st29 ?_
   have F31 := (((F19.wr W21).wr W25).wr W29)
   have F32 := ((((Fw3.ext E18).other W21 (Or.inr (sn_java_math_BigInteger_signum__mag hw))).other W25 (Or.inl (Nat.ne_of_lt (Nat.lt_of_lt_of_le (Nat.lt_of_lt_of_le p_Exa_a1.lt (Nat.le_of_eq W3.size.symm)) (Nat.le_of_eq g18.symm))))).other W29 (Or.inl (Nat.ne_of_lt (Nat.lt_of_lt_of_le (Nat.lt_of_lt_of_le p_Exa_a1.lt (Nat.le_of_eq W3.size.symm)) (Nat.le_of_eq g18.symm)))))
   have F33 := (F26.other W29 (Or.inl (Nat.ne_of_lt (Nat.lt_of_lt_of_le (Nat.lt_of_lt_of_le p_Exa_a1.lt (Nat.le_of_eq W3.size.symm)) (Nat.le_of_eq g18.symm)))))
   have F34 := (((Ex18.wr W21).wr W25).wr W29)
   have B30 : BI Z h29 a1 (pj.toInt) := ⟨b18, _, F31, F33, F34, Or.inr (Or.inr ⟨((((-pj).toUInt64 >>> ((32 : Int32) &&& 0x3f).toInt64.toUInt64).toInt64).toInt32), ((-pj).toInt32), c4, V29, Or.inr ⟨F32, (bij_n2 ((lw_lt _ _).mp c2))⟩⟩)⟩
   exact own_finV X29 hx hlk hre d76 e29 (K := _) ⟨rfl, N29, ((((((Keep.refl h0 [a1]).wr W3 (Or.inl (List.mem_of_getElem? (i := 0) rfl))).ext E18).wr W21 (Or.inl (List.mem_of_getElem? (i := 0) rfl))).wr W25 (Or.inr (Nat.le_trans (Nat.le_of_eq W3.size.symm) (Nat.le_of_eq g18.symm)))).wr W29 (Or.inr (Nat.le_trans (Nat.le_of_eq W3.size.symm) (Nat.le_of_eq g18.symm)))), B30⟩ (by decide) (by decide)
 ·refine zY X1 hx d7 ((if0 _ _).trans (flt c2).2.1) 21 (by decide) ?_
  refine zR X1 hx d21 rfl rfl 22 rfl ?_
  refine zK X1 hx d22 1 rfl 23 rfl ?_
  obtain ⟨T35, h35, X35, e35, W35, st35⟩ := putF X1 hx hZ hown (host := "") (Or.inl (tw hw 47 rfl)) Via.refl eh1 p_Fld_a1_signum p_Exa_a1 (Or.inr ⟨(tw hw 48 rfl), rfl, hnm⟩) (tw hw 62 rfl) pf_0 rfl rfl (g := (mkF m 23 #[rv a1, .val (.long pj), .second, .unset] [.int 1, .ref a1])) rfl rfl d23
  have N35 := Fr.snoc X35 N1 ge1
  have Fw35 : Fld Z h35 a1 "java/math/BigInteger" "signum" "I" (.int (1 : Int32)) := p_Fld_a1_signum.same W35
  refine zt 26 [] st35 ?_
  refine zJ X35 hx d26 rfl 27 rfl ?_
  refine zq 29 [.int 32, .long pj] (fun t k => XS.bipush X35.here hx rfl d27 k) ?_
  refine zq 30 [.long ((pj.toUInt64 >>> ((32 : Int32) &&& 0x3f).toInt64.toUInt64).toInt64)] (fun t k => XS.lushr X35.here hx rfl d29 rfl k) ?_
  refine zq 31 [.int (((pj.toUInt64 >>> ((32 : Int32) &&& 0x3f).toInt64.toUInt64).toInt64).toInt32)] (fun t k => XS.l2i X35.here hx rfl d30 rfl k) ?_
  refine zl 32 _ [] (fun t k => XS.istoreN X35.here hx rfl d31 rfl (l' := #[rv a1, .val (.long pj), .second, iv (((pj.toUInt64 >>> ((32 : Int32) &&& 0x3f).toInt64.toUInt64).toInt64).toInt32)]) rfl k) ?_
  refine zI X35 hx d32 rfl 33 rfl ?_
  by_cases c36 : (((pj.toUInt64 >>> ((32 : Int32) &&& 0x3f).toInt64.toUInt64).toInt64).toInt32) = (0 : Int32)
  ·refine zN X35 hx d33 ((if0 _ _).trans (teq c36).2) 36 rfl ?_
   refine zR X35 hx d36 rfl rfl 37 rfl ?_
   refine zK X35 hx d37 1 rfl 38 rfl ?_
   obtain ⟨T37, h37, k37, X37, e37, E37, A37, Ex37, st37⟩ := newPE X35 hx hZ (tw hw 69 rfl) e35 (g := (mkF m 38 #[rv a1, .val (.long pj), .second, iv (((pj.toUInt64 >>> ((32 : Int32) &&& 0x3f).toInt64.toUInt64).toInt64).toInt32)] [.int 1, .ref a1])) rfl d38 rfl (by decide : ¬ ((1 : Int32) < (0 : Int32))) (cap := 1) (by decide) (by decide) (by decide) (by decide) (ad := "[I") (by decide)
   obtain ⟨b37, g37⟩ : ∃ z, z = h35.size := ⟨_, rfl⟩
   rw [← g37] at A37 Ex37 st37
   have X37 := own_reX X37 (rfl : _ = 1) (rfl : _ = 1)
   have V37 : Arv Z h37 b37 k37 .int (1 : Int32) [(.int (0 : Int32))] (.int (0 : Int32)) := (Arv.new A37 (by decide : ¬ ((1 : Int32) < (0 : Int32)))).pad (pad_rep [] (.int (0 : Int32)) 1)
   refine zt 40 [.ref b37, .ref a1] st37 ?_
   have F38 := ((p_Exa_a1.wr W35).ext E37)
   have F39 := ((p_Fld_a1_mag.other W35 (Or.inr (sn_java_math_BigInteger_mag__signum hw))).ext E37)
   obtain ⟨T40, h40, X40, e40, W40, st40⟩ := putF X37 hx hZ hown (host := "") (Or.inl (tw hw 49 rfl)) Via.refl e37 F39 F38 (Or.inr ⟨(tw hw 50 rfl), rfl, hnm⟩) (tw hw 62 rfl) pf_1 rfl rfl (g := (mkF m 40 #[rv a1, .val (.long pj), .second, iv (((pj.toUInt64 >>> ((32 : Int32) &&& 0x3f).toInt64.toUInt64).toInt64).toInt32)] [.ref b37, .ref a1])) rfl rfl d40
   have N40 := Fr.snoc X40 N35 ge1
   have Fw40 : Fld Z h40 a1 "java/math/BigInteger" "mag" "[I" (.ref b37) := F39.same W40
   refine zt 43 [] st40 ?_
   refine zR X40 hx d43 rfl rfl 44 rfl ?_
   refine zP X40 hx hZ hown (tw hw 49 rfl) e40 Fw40 d44 47 rfl fun T41 X41 e41 => ?_
   refine zK X41 hx d47 0 rfl 48 rfl ?_
   refine zJ X41 hx d48 rfl 49 rfl ?_
   refine zq 50 [.int (pj.toInt32), .int 0, .ref b37] (fun t k => XS.l2i X41.here hx rfl d49 rfl k) ?_
   have F42 := (V37.other W40 (Ne.symm (Nat.ne_of_lt (Nat.lt_of_lt_of_le (Nat.lt_of_lt_of_le p_Exa_a1.lt (Nat.le_of_eq W35.size.symm)) (Nat.le_of_eq g37.symm)))))
   obtain ⟨cl43, Ar43, q43, S43, M43, H43, Gx43⟩ := id F42
   obtain ⟨T44, h44, X44, e44, W44, st44⟩ := stI X41 hx hZ e41 Ar43 (j := (0 : Int32)) (inb_of S43 ⟨by decide, by decide⟩) (g := (mkF m 50 #[rv a1, .val (.long pj), .second, iv (((pj.toUInt64 >>> ((32 : Int32) &&& 0x3f).toInt64.toUInt64).toInt64).toInt32)] [.int (pj.toInt32), .int 0, .ref b37])) rfl rfl d50
   have N44 := Fr.snoc X44 N40 (Nat.le_trans (Nat.le_trans Z0 (Nat.le_of_eq W35.size.symm)) (Nat.le_of_eq g37.symm))
   have V44 : Arv Z h44 b37 k37 .int (1 : Int32) [(.int (pj.toInt32))] (.int (0 : Int32)) := Arv.set Ar43 q43 S43 M43 H43 Gx43 rfl W44 0 rfl (Nat.le_of_ble_eq_true rfl)
   refine zt 51 [] st44 ?_
   refine zG X44 hx d51 76 (by decide) ?_
   have F46 := ((F38.wr W40).wr W44)
   have F47 := (((Fw35.ext E37).other W40 (Or.inr (sn_java_math_BigInteger_signum__mag hw))).other W44 (Or.inl (Nat.ne_of_lt (Nat.lt_of_lt_of_le (Nat.lt_of_lt_of_le p_Exa_a1.lt (Nat.le_of_eq W35.size.symm)) (Nat.le_of_eq g37.symm)))))
   have F48 := (Fw40.other W44 (Or.inl (Nat.ne_of_lt (Nat.lt_of_lt_of_le (Nat.lt_of_lt_of_le p_Exa_a1.lt (Nat.le_of_eq W35.size.symm)) (Nat.le_of_eq g37.symm)))))
   have F49 := ((Ex37.wr W40).wr W44)
   have B45 : BI Z h44 a1 (pj.toInt) := ⟨b37, _, F46, F48, F49, Or.inr (Or.inl ⟨(pj.toInt32), (lo_ne c36 hp), V44, Or.inl ⟨F47, (bij_p1 (fun q => c2 ((lw_lt _ _).mpr q)) c36)⟩⟩)⟩
   exact own_finV X44 hx hlk hre d76 e44 (K := _) ⟨rfl, N44, (((((Keep.refl h0 [a1]).wr W35 (Or.inl (List.mem_of_getElem? (i := 0) rfl))).ext E37).wr W40 (Or.inl (List.mem_of_getElem? (i := 0) rfl))).wr W44 (Or.inr (Nat.le_trans (Nat.le_of_eq W35.size.symm) (Nat.le_of_eq g37.symm)))), B45⟩ (by decide) (by decide)
  ·refine zY X35 hx d33 ((if0 _ _).trans (feq c36).2) 54 (by decide) ?_
   refine zR X35 hx d54 rfl rfl 55 rfl ?_
   refine zK X35 hx d55 2 rfl 56 rfl ?_
   obtain ⟨T50, h50, k50, X50, e50, E50, A50, Ex50, st50⟩ := newPE X35 hx hZ (tw hw 69 rfl) e35 (g := (mkF m 56 #[rv a1, .val (.long pj), .second, iv (((pj.toUInt64 >>> ((32 : Int32) &&& 0x3f).toInt64.toUInt64).toInt64).toInt32)] [.int 2, .ref a1])) rfl d56 rfl (by decide : ¬ ((2 : Int32) < (0 : Int32))) (cap := 2) (by decide) (by decide) (by decide) (by decide) (ad := "[I") (by decide)
   obtain ⟨b50, g50⟩ : ∃ z, z = h35.size := ⟨_, rfl⟩
   rw [← g50] at A50 Ex50 st50
   have X50 := own_reX X50 (rfl : _ = 1) (rfl : _ = 2)
   have V50 : Arv Z h50 b50 k50 .int (2 : Int32) [(.int (0 : Int32)), (.int (0 : Int32))] (.int (0 : Int32)) := (Arv.new A50 (by decide : ¬ ((2 : Int32) < (0 : Int32)))).pad (pad_rep [] (.int (0 : Int32)) 2)
   refine zt 58 [.ref b50, .ref a1] st50 ?_
   have F51 := ((p_Exa_a1.wr W35).ext E50)
   have F52 := ((p_Fld_a1_mag.other W35 (Or.inr (sn_java_math_BigInteger_mag__signum hw))).ext E50)
   obtain ⟨T53, h53, X53, e53, W53, st53⟩ := putF X50 hx hZ hown (host := "") (Or.inl (tw hw 49 rfl)) Via.refl e50 F52 F51 (Or.inr ⟨(tw hw 50 rfl), rfl, hnm⟩) (tw hw 62 rfl) pf_1 rfl rfl (g := (mkF m 58 #[rv a1, .val (.long pj), .second, iv (((pj.toUInt64 >>> ((32 : Int32) &&& 0x3f).toInt64.toUInt64).toInt64).toInt32)] [.ref b50, .ref a1])) rfl rfl d58
   have N53 := Fr.snoc X53 N35 ge1
   have Fw53 : Fld Z h53 a1 "java/math/BigInteger" "mag" "[I" (.ref b50) := F52.same W53
   refine zt 61 [] st53 ?_
   refine zR X53 hx d61 rfl rfl 62 rfl ?_
   refine zP X53 hx hZ hown (tw hw 49 rfl) e53 Fw53 d62 65 rfl fun T54 X54 e54 => ?_
   refine zK X54 hx d65 0 rfl 66 rfl ?_
   refine zI X54 hx d66 rfl 67 rfl ?_
   have F55 := (V50.other W53 (Ne.symm (Nat.ne_of_lt (Nat.lt_of_lt_of_le (Nat.lt_of_lt_of_le p_Exa_a1.lt (Nat.le_of_eq W35.size.symm)) (Nat.le_of_eq g50.symm)))))
   obtain ⟨cl56, Ar56, q56, S56, M56, H56, Gx56⟩ := id F55
   obtain ⟨T57, h57, X57, e57, W57, st57⟩ := stI X54 hx hZ e54 Ar56 (j := (0 : Int32)) (inb_of S56 ⟨by decide, by decide⟩) (g := (mkF m 67 #[rv a1, .val (.long pj), .second, iv (((pj.toUInt64 >>> ((32 : Int32) &&& 0x3f).toInt64.toUInt64).toInt64).toInt32)] [.int (((pj.toUInt64 >>> ((32 : Int32) &&& 0x3f).toInt64.toUInt64).toInt64).toInt32), .int 0, .ref b50])) rfl rfl d67
   have N57 := Fr.snoc X57 N53 (Nat.le_trans (Nat.le_trans Z0 (Nat.le_of_eq W35.size.symm)) (Nat.le_of_eq g50.symm))
   have V57 : Arv Z h57 b50 k50 .int (2 : Int32) [(.int (((pj.toUInt64 >>> ((32 : Int32) &&& 0x3f).toInt64.toUInt64).toInt64).toInt32)), (.int (0 : Int32))] (.int (0 : Int32)) := Arv.set Ar56 q56 S56 M56 H56 Gx56 rfl W57 0 rfl (Nat.le_of_ble_eq_true rfl)
   refine zt 68 [] st57 ?_
   refine zR X57 hx d68 rfl rfl 69 rfl ?_
   have F58 := (Fw53.other W57 (Or.inl (Nat.ne_of_lt (Nat.lt_of_lt_of_le (Nat.lt_of_lt_of_le p_Exa_a1.lt (Nat.le_of_eq W35.size.symm)) (Nat.le_of_eq g50.symm)))))
   refine zP X57 hx hZ hown (tw hw 49 rfl) e57 F58 d69 72 rfl fun T59 X59 e59 => ?_
   refine zK X59 hx d72 1 rfl 73 rfl ?_
   refine zJ X59 hx d73 rfl 74 rfl ?_
   refine zq 75 [.int (pj.toInt32), .int 1, .ref b50] (fun t k => XS.l2i X59.here hx rfl d74 rfl k) ?_
   obtain ⟨cl60, Ar60, q60, S60, M60, H60, Gx60⟩ := id V57
   obtain ⟨T61, h61, X61, e61, W61, st61⟩ := stI X59 hx hZ e59 Ar60 (j := (1 : Int32)) (inb_of S60 ⟨by decide, by decide⟩) (g := (mkF m 75 #[rv a1, .val (.long pj), .second, iv (((pj.toUInt64 >>> ((32 : Int32) &&& 0x3f).toInt64.toUInt64).toInt64).toInt32)] [.int (pj.toInt32), .int 1, .ref b50])) rfl rfl d75
   have N61 := Fr.snoc X61 N57 (Nat.le_trans (Nat.le_trans Z0 (Nat.le_of_eq W35.size.symm)) (Nat.le_of_eq g50.symm))
   have V61 : Arv Z h61 b50 k50 .int (2 : Int32) [(.int (((pj.toUInt64 >>> ((32 : Int32) &&& 0x3f).toInt64.toUInt64).toInt64).toInt32)), (.int (pj.toInt32))] (.int (0 : Int32)) := Arv.set Ar60 q60 S60 M60 H60 Gx60 rfl W61 1 rfl (Nat.le_of_ble_eq_true rfl)
   refine zt 76 [] st61 ?_
   have F63 := (((F51.wr W53).wr W57).wr W61)
   have F64 := ((((Fw35.ext E50).other W53 (Or.inr (sn_java_math_BigInteger_signum__mag hw))).other W57 (Or.inl (Nat.ne_of_lt (Nat.lt_of_lt_of_le (Nat.lt_of_lt_of_le p_Exa_a1.lt (Nat.le_of_eq W35.size.symm)) (Nat.le_of_eq g50.symm))))).other W61 (Or.inl (Nat.ne_of_lt (Nat.lt_of_lt_of_le (Nat.lt_of_lt_of_le p_Exa_a1.lt (Nat.le_of_eq W35.size.symm)) (Nat.le_of_eq g50.symm)))))
   have F65 := (F58.other W61 (Or.inl (Nat.ne_of_lt (Nat.lt_of_lt_of_le (Nat.lt_of_lt_of_le p_Exa_a1.lt (Nat.le_of_eq W35.size.symm)) (Nat.le_of_eq g50.symm)))))
   have F66 := (((Ex50.wr W53).wr W57).wr W61)
   have B62 : BI Z h61 a1 (pj.toInt) := ⟨b50, _, F63, F65, F66, Or.inr (Or.inr ⟨(((pj.toUInt64 >>> ((32 : Int32) &&& 0x3f).toInt64.toUInt64).toInt64).toInt32), (pj.toInt32), c36, V61, Or.inl ⟨F64, (bij_p2 (fun q => c2 ((lw_lt _ _).mpr q)))⟩⟩)⟩
   exact own_finV X61 hx hlk hre d76 e61 (K := _) ⟨rfl, N61, ((((((Keep.refl h0 [a1]).wr W35 (Or.inl (List.mem_of_getElem? (i := 0) rfl))).ext E50).wr W53 (Or.inl (List.mem_of_getElem? (i := 0) rfl))).wr W57 (Or.inr (Nat.le_trans (Nat.le_of_eq W35.size.symm) (Nat.le_of_eq g50.symm)))).wr W61 (Or.inr (Nat.le_trans (Nat.le_of_eq W35.size.symm) (Nat.le_of_eq g50.symm)))), B62⟩ (by decide) (by decide)
def QrmVo (Z : State) (pj : Int64) (h0 : Heap) (n0 : Nat) (v : Option Value) (h : Heap) (L : List Loc) : Prop := ∃ x : Addr, v = some (.ref x) ∧ Fr n0 L ∧ Keep h0 h [] ∧ (BI Z h x (pj.toInt))
abbrev RrmVo : Room := { frames := 3, cells := 2, slots := 8, locals := 40 }
theorem rmVo (l : Launch) (Z : State) (a0 : Array Value) (hw : ∀ d ∈ tables_1, d.before a0 Z = true) (ws : List Jvm.Cond) (pj : Int64) (h0 : Heap) (n0 : Nat) (Z0 : n0 ≤ h0.size) (zA oA pA nA : Addr) (kP kN : ClassId) (vP vN : List Value) (G0 : Gl Z zA oA pA nA kP kN vP vN) (X00 : Old Z n0 h0)  : Mf l Z Nm30 jdk_2097_method_29_code 2 (Option.some (Jvm.ClassFile.FieldType.object "java/math/BigInteger")) ws RrmVo #[(.long pj)] h0 (QrmVo Z pj h0 n0) := by
 refine own_entry (plainFor_of_name pn_java_math_BigInteger) #[.val (.long pj), .second] (fun _ => rfl) fun p e s m below meth c s₁ hx hby hml hown hnm hlk hre hZ X0 e0 => ?_
 have N0 := Fr.nil n0
 obtain ⟨d0, d1, d2, d3, d6, d9, d10, d11, d12, d13, d16, d17, d20, d21, d24, d27, d28, d29, d30, d31, d32, d33, d34, d37, d38, d41, d42, d45, d48, d49, d50, d51, d52, d53, d56, d57, d58, d61, -⟩ := D_30 hby
 obtain ⟨SZ, BZ, SO, BO, SP, AP, hcP, SN, AN, hcN⟩ := id G0
 refine zJ X0 hx d0 rfl 1 rfl ?_
 refine zq 2 [.long 0, .long pj] (fun t k => XS.lconst X0.here hx rfl d1 k) ?_
 refine zq 3 [.int (lcmpW pj (0 : Int64))] (fun t k => XS.lcmp X0.here hx rfl d2 rfl k) ?_
 by_cases c1 : (lcmpW pj (0 : Int64)) = (0 : Int32)
 ·refine zN X0 hx d3 ((if0 _ _).trans (teq c1).2) 6 rfl ?_
  obtain ⟨T2, X2, e2, st2⟩ := getS (host := "") X0 hx hZ hown (tw hw 15 rfl) Via.refl e0 (SZ.ext X00.2) (g := (mkF m 6 #[.val (.long pj), .second] [])) rfl d6
  refine zt 9 [.ref zA] st2 ?_
  have B3 : BI Z h0 zA (pj.toInt) := BI.cast ((vo_zero c1) : (0 : Int) = (pj.toInt)) (BZ.ext X00.2)
  exact own_finR X2 hx hlk hre rfl rfl d9 e2 ⟨zA, rfl, N0, (Keep.refl h0 []), B3⟩ (by decide) (by decide)
 ·refine zY X0 hx d3 ((if0 _ _).trans (feq c1).2) 10 (by decide) ?_
  refine zJ X0 hx d10 rfl 11 rfl ?_
  refine zq 12 [.long 0, .long pj] (fun t k => XS.lconst X0.here hx rfl d11 k) ?_
  refine zq 13 [.int (lcmpW pj (0 : Int64))] (fun t k => XS.lcmp X0.here hx rfl d12 rfl k) ?_
  by_cases c4 : (0 : Int32) < (lcmpW pj (0 : Int64))
  ·refine zN X0 hx d13 ((if0 _ _).trans (tlt c4).2.2.2) 16 rfl ?_
   refine zJ X0 hx d16 rfl 17 rfl ?_
   refine zq 20 [.long 16, .long pj] (fun t k => X0.ldc2Long hx hown (mvT hZ (tw hw 27 rfl)) (g := (mkF m 17 #[.val (.long pj), .second] [.long pj])) rfl d17 _ k) ?_
   refine zq 21 [.int (lcmpW pj (16 : Int64))] (fun t k => XS.lcmp X0.here hx rfl d20 rfl k) ?_
   by_cases c5 : (0 : Int32) < (lcmpW pj (16 : Int64))
   ·refine zY X0 hx d21 ((if0 _ _).trans (tlt c5).2.2.1) 31 (by decide) ?_
    refine zJ X0 hx d31 rfl 32 rfl ?_
    refine zq 33 [.long 0, .long pj] (fun t k => XS.lconst X0.here hx rfl d32 k) ?_
    refine zq 34 [.int (lcmpW pj (0 : Int64))] (fun t k => XS.lcmp X0.here hx rfl d33 rfl k) ?_
    refine zY X0 hx d34 ((if0 _ _).trans (flt (vo_nneg c4)).2.1) 53 (by decide) ?_
    obtain ⟨T6, h6, X6, e6, E6, A6, D6, -, st6⟩ := newO X0 hx hZ hown (tw hw 61 rfl) (tw hw 62 rfl) (tw hw 13 rfl) e0 (g := (mkF m 53 #[.val (.long pj), .second] [])) rfl d53 (by decide) (by decide)
    obtain ⟨b6, g6⟩ : ∃ z, z = h0.size := ⟨_, rfl⟩
    rw [← g6] at A6 D6 st6
    have X6 := own_reX X6 (rfl : _ = 1) (rfl : _ = 6)
    refine zt 56 [.ref b6] st6 ?_
    refine zD X6 hx d56 rfl 57 rfl ?_
    refine zJ X6 hx d57 rfl 58 rfl ?_
    refine zCI X6 hx hZ hml rfl rfl hown (tw hw 169 rfl) (tw hw 170 rfl) (tw hw 13 rfl) (tw hw 171 rfl) (rmBiJ l Z a0 hw [] b6 pj h6 n0 (Nat.le_trans Z0 E6.1) A6 (D6 (Or.inr (tw hw 48 rfl)) pf_0) (D6 (Or.inr (tw hw 50 rfl)) pf_1) (Nat.le_trans (Nat.le_trans Z0 (Nat.le_refl _)) (Nat.le_of_eq g6.symm)) (vo_ne c1)) 1 (by decide) b6 [.ref b6] rfl rfl (lenOf pd_17 rfl) rfl (Nat.le_of_eq rfl) e6 d58 61 rfl fun T7 L7 v7 X7 ⟨Lc7, hQ7, l7⟩ => ?_
    have X7 := own_reX X7 (rfl : _ = 2) (rfl : _ = 8)
    obtain ⟨rfl, Nq7, K7, f7_0⟩ := hQ7
    have N7 := own_frApp N0 Nq7 l7
    refine zx [.ref b6] rfl ?_
    have K8 : Keep h0 T7.heap [] := (((Keep.refl h0 []).ext E6).trans K7 (allS (Or.inr (Nat.le_trans (Nat.le_refl _) (Nat.le_of_eq g6.symm))) all0))
    exact own_finR X7 hx hlk hre rfl rfl d61 rfl ⟨b6, rfl, N7, ((Keep.refl h0 []).trans K8 all0), f7_0⟩ (by decide) (by decide)
   ·refine zN X0 hx d21 ((if0 _ _).trans (flt c5).2.2.1) 24 rfl ?_
    obtain ⟨T9, X9, e9, st9⟩ := getS (host := "") X0 hx hZ hown (tw hw 28 rfl) Via.refl e0 (SP.ext X00.2) (g := (mkF m 24 #[.val (.long pj), .second] [])) rfl d24
    refine zt 27 [.ref pA] st9 ?_
    refine zJ X9 hx d27 rfl 28 rfl ?_
    refine zq 29 [.int (pj.toInt32), .ref pA] (fun t k => XS.l2i X9.here hx rfl d28 rfl k) ?_
    obtain ⟨cl10, Ar10, q10, S10, M10, H10, Gx10⟩ := id (AP.ext X00.2)
    have sx11 := small_idx (vo_pos c4) (vo_le c5)
    obtain ⟨av11, hav11, Bv11⟩ := hcP _ sx11.2.2.1 sx11.2.2.2.1
    have hin10 : ¬ ((pj.toInt32) < 0 ∨ cl10.slots.size ≤ ((pj.toInt32)).toNatClampNeg) := inb_of S10 ⟨sx11.1, sx11.2.1⟩
    refine zq 30 [.ref av11] (fun t k => X9.aaload hx (j := (pj.toInt32)) (v := (.ref av11)) (own_at e9 Ar10.1) (State.isArrayOf_alike (State.Warmed39.alike hZ) Ar10.2.1) rfl Ar10.2.2 hin10 (Has.at H10 hin10 (show _ = _ from hav11)) (g := (mkF m 29 #[.val (.long pj), .second] [.int (pj.toInt32), .ref pA])) rfl rfl d29 _ k) ?_
    have B12 : BI Z h0 av11 (pj.toInt) := BI.cast (sx11.2.2.2.2 : ((((pj.toInt32)).toNatClampNeg : Nat) : Int) = (pj.toInt)) (BI.ext Bv11 X00.2)
    exact own_finR X9 hx hlk hre rfl rfl d30 e9 ⟨av11, rfl, N0, (Keep.refl h0 []), B12⟩ (by decide) (by decide)
  ·refine zY X0 hx d13 ((if0 _ _).trans (flt c4).2.2.2) 31 (by decide) ?_
   refine zJ X0 hx d31 rfl 32 rfl ?_
   refine zq 33 [.long 0, .long pj] (fun t k => XS.lconst X0.here hx rfl d32 k) ?_
   refine zq 34 [.int (lcmpW pj (0 : Int64))] (fun t k => XS.lcmp X0.here hx rfl d33 rfl k) ?_
   by_cases c13 : (lcmpW pj (0 : Int64)) < (0 : Int32)
   ·refine zN X0 hx d34 ((if0 _ _).trans (tlt c13).2.1) 37 rfl ?_
    refine zJ X0 hx d37 rfl 38 rfl ?_
    refine zq 41 [.long (-16), .long pj] (fun t k => X0.ldc2Long hx hown (mvT hZ (tw hw 271 rfl)) (g := (mkF m 38 #[.val (.long pj), .second] [.long pj])) rfl d38 _ k) ?_
    refine zq 42 [.int (lcmpW pj (-16 : Int64))] (fun t k => XS.lcmp X0.here hx rfl d41 rfl k) ?_
    by_cases c14 : (lcmpW pj (-16 : Int64)) < (0 : Int32)
    ·refine zY X0 hx d42 ((if0 _ _).trans (tlt c14).1) 53 (by decide) ?_
     obtain ⟨T15, h15, X15, e15, E15, A15, D15, -, st15⟩ := newO X0 hx hZ hown (tw hw 61 rfl) (tw hw 62 rfl) (tw hw 13 rfl) e0 (g := (mkF m 53 #[.val (.long pj), .second] [])) rfl d53 (by decide) (by decide)
     obtain ⟨b15, g15⟩ : ∃ z, z = h0.size := ⟨_, rfl⟩
     rw [← g15] at A15 D15 st15
     have X15 := own_reX X15 (rfl : _ = 1) (rfl : _ = 6)
     refine zt 56 [.ref b15] st15 ?_
     refine zD X15 hx d56 rfl 57 rfl ?_
     refine zJ X15 hx d57 rfl 58 rfl ?_
     refine zCI X15 hx hZ hml rfl rfl hown (tw hw 169 rfl) (tw hw 170 rfl) (tw hw 13 rfl) (tw hw 171 rfl) (rmBiJ l Z a0 hw [] b15 pj h15 n0 (Nat.le_trans Z0 E15.1) A15 (D15 (Or.inr (tw hw 48 rfl)) pf_0) (D15 (Or.inr (tw hw 50 rfl)) pf_1) (Nat.le_trans (Nat.le_trans Z0 (Nat.le_refl _)) (Nat.le_of_eq g15.symm)) (vo_ne c1)) 1 (by decide) b15 [.ref b15] rfl rfl (lenOf pd_17 rfl) rfl (Nat.le_of_eq rfl) e15 d58 61 rfl fun T16 L16 v16 X16 ⟨Lc16, hQ16, l16⟩ => ?_
     have X16 := own_reX X16 (rfl : _ = 2) (rfl : _ = 8)
     obtain ⟨rfl, Nq16, K16, f16_0⟩ := hQ16
     have N16 := own_frApp N0 Nq16 l16
     refine zx [.ref b15] rfl ?_
     have K17 : Keep h0 T16.heap [] := (((Keep.refl h0 []).ext E15).trans K16 (allS (Or.inr (Nat.le_trans (Nat.le_refl _) (Nat.le_of_eq g15.symm))) all0))
     exact own_finR X16 hx hlk hre rfl rfl d61 rfl ⟨b15, rfl, N16, ((Keep.refl h0 []).trans K17 all0), f16_0⟩ (by decide) (by decide)
    ·refine zN X0 hx d42 ((if0 _ _).trans (flt c14).1) 45 rfl ?_
     obtain ⟨T18, X18, e18, st18⟩ := getS (host := "") X0 hx hZ hown (tw hw 298 rfl) Via.refl e0 (SN.ext X00.2) (g := (mkF m 45 #[.val (.long pj), .second] [])) rfl d45
     refine zt 48 [.ref nA] st18 ?_
     refine zJ X18 hx d48 rfl 49 rfl ?_
     refine zq 50 [.long (-pj), .ref nA] (fun t k => XS.lneg X18.here hx rfl d49 rfl k) ?_
     refine zq 51 [.int ((-pj).toInt32), .ref nA] (fun t k => XS.l2i X18.here hx rfl d50 rfl k) ?_
     obtain ⟨cl19, Ar19, q19, S19, M19, H19, Gx19⟩ := id (AN.ext X00.2)
     have nx := vo_nidx c13 c14
     have sx20 := small_idx nx.1 nx.2.1
     obtain ⟨av20, hav20, Bv20⟩ := hcN _ sx20.2.2.1 sx20.2.2.2.1
     have hin19 : ¬ (((-pj).toInt32) < 0 ∨ cl19.slots.size ≤ (((-pj).toInt32)).toNatClampNeg) := inb_of S19 ⟨sx20.1, sx20.2.1⟩
     refine zq 52 [.ref av20] (fun t k => X18.aaload hx (j := ((-pj).toInt32)) (v := (.ref av20)) (own_at e18 Ar19.1) (State.isArrayOf_alike (State.Warmed39.alike hZ) Ar19.2.1) rfl Ar19.2.2 hin19 (Has.at H19 hin19 (show _ = _ from hav20)) (g := (mkF m 51 #[.val (.long pj), .second] [.int ((-pj).toInt32), .ref nA])) rfl rfl d51 _ k) ?_
     have B21 : BI Z h0 av20 (pj.toInt) := BI.cast ((by have q1 := sx20.2.2.2.2; have q2 := nx.2.2; omega) : (-(((((-pj).toInt32)).toNatClampNeg : Nat) : Int)) = (pj.toInt)) (BI.ext Bv20 X00.2)
     exact own_finR X18 hx hlk hre rfl rfl d52 e18 ⟨av20, rfl, N0, (Keep.refl h0 []), B21⟩ (by decide) (by decide)
   ·refine zY X0 hx d34 ((if0 _ _).trans (flt c13).2.1) 53 (by decide) ?_
    obtain ⟨T22, h22, X22, e22, E22, A22, D22, -, st22⟩ := newO X0 hx hZ hown (tw hw 61 rfl) (tw hw 62 rfl) (tw hw 13 rfl) e0 (g := (mkF m 53 #[.val (.long pj), .second] [])) rfl d53 (by decide) (by decide)
    obtain ⟨b22, g22⟩ : ∃ z, z = h0.size := ⟨_, rfl⟩
    rw [← g22] at A22 D22 st22
    have X22 := own_reX X22 (rfl : _ = 1) (rfl : _ = 6)
    refine zt 56 [.ref b22] st22 ?_
    refine zD X22 hx d56 rfl 57 rfl ?_
    refine zJ X22 hx d57 rfl 58 rfl ?_
    refine zCI X22 hx hZ hml rfl rfl hown (tw hw 169 rfl) (tw hw 170 rfl) (tw hw 13 rfl) (tw hw 171 rfl) (rmBiJ l Z a0 hw [] b22 pj h22 n0 (Nat.le_trans Z0 E22.1) A22 (D22 (Or.inr (tw hw 48 rfl)) pf_0) (D22 (Or.inr (tw hw 50 rfl)) pf_1) (Nat.le_trans (Nat.le_trans Z0 (Nat.le_refl _)) (Nat.le_of_eq g22.symm)) (vo_ne c1)) 1 (by decide) b22 [.ref b22] rfl rfl (lenOf pd_17 rfl) rfl (Nat.le_of_eq rfl) e22 d58 61 rfl fun T23 L23 v23 X23 ⟨Lc23, hQ23, l23⟩ => ?_
    have X23 := own_reX X23 (rfl : _ = 2) (rfl : _ = 8)
    obtain ⟨rfl, Nq23, K23, f23_0⟩ := hQ23
    have N23 := own_frApp N0 Nq23 l23
    refine zx [.ref b22] rfl ?_
    have K24 : Keep h0 T23.heap [] := (((Keep.refl h0 []).ext E22).trans K23 (allS (Or.inr (Nat.le_trans (Nat.le_refl _) (Nat.le_of_eq g22.symm))) all0))
    exact own_finR X23 hx hlk hre rfl rfl d61 rfl ⟨b22, rfl, N23, ((Keep.refl h0 []).trans K24 all0), f23_0⟩ (by decide) (by decide)
def QrmRI (Z : State) (a1 : Addr) (x1 : Addr) (x2 : Addr) (h0 : Heap) (n0 : Nat) (v : Option Value) (h : Heap) (L : List Loc) : Prop := v = none ∧ Fr n0 L ∧ Keep h0 h [a1] ∧ (Exa Z h a1 "com/example/curves_to_bounds/curvestobounds/curve/Rational") ∧ (Fld Z h a1 "com/example/curves_to_bounds/curvestobounds/curve/Rational" "numerator" "Ljava/math/BigInteger;" (.ref x1)) ∧ (Fld Z h a1 "com/example/curves_to_bounds/curvestobounds/curve/Rational" "denominator" "Ljava/math/BigInteger;" (.ref x2))
abbrev RrmRI : Room := { frames := 1, cells := 0, slots := 0, locals := 12 }
theorem rmRI (l : Launch) (Z : State) (a0 : Array Value) (hw : ∀ d ∈ tables_1, d.before a0 Z = true) (ws : List Jvm.Cond) (a1 : Addr) (x1 : Addr) (x2 : Addr) (h0 : Heap) (n0 : Nat) (Z0 : n0 ≤ h0.size)  (p_Exa_a1 : Exa Z h0 a1 "com/example/curves_to_bounds/curvestobounds/curve/Rational") (p_Fld_a1_numerator : Fld Z h0 a1 "com/example/curves_to_bounds/curvestobounds/curve/Rational" "numerator" "Ljava/math/BigInteger;" .null) (p_Fld_a1_denominator : Fld Z h0 a1 "com/example/curves_to_bounds/curvestobounds/curve/Rational" "denominator" "Ljava/math/BigInteger;" .null) (ge1 : n0 ≤ a1) : Mf l Z Nm31 prog_31_method_1_code 3 (Option.none : Option Jvm.ClassFile.FieldType) ws RrmRI #[(.ref a1), (.ref x1), (.ref x2)] h0 (QrmRI Z a1 x1 x2 h0 n0) := by
 refine own_entry (plainFor_of_name pn_com_example_curves_to_bounds_curvestobounds_curve_Rational) #[rv a1, rv x1, rv x2] (fun _ => rfl) fun p e s m below meth c s₁ hx hby hml hown hnm hlk hre hZ X0 e0 => ?_
 have N0 := Fr.nil n0
 obtain ⟨d0, d1, d4, d5, d6, d9, d10, d11, d14, -⟩ := D_31 hby
 refine zR X0 hx d0 rfl rfl 1 rfl ?_
 obtain ⟨T1, X1, e1, st1⟩ := initO X0 hx hZ hown (tw hw 20 rfl) (tw hw 21 rfl) (tw hw 22 rfl) e0 (g := (mkF m 1 #[rv a1, rv x1, rv x2] [.ref a1])) rfl (by rw [hml]; rfl) rfl d1 (by decide) (W := 0) (by show 2 * 0 + _ ≤ _; exact Nat.le_of_eq rfl) (by decide)
 refine zt 4 [] st1 ?_
 refine zR X1 hx d4 rfl rfl 5 rfl ?_
 refine zR X1 hx d5 rfl rfl 6 rfl ?_
 obtain ⟨T2, h2, X2, e2, W2, st2⟩ := putF X1 hx hZ hown (host := "") (Or.inl (tw hw 23 rfl)) Via.refl e1 p_Fld_a1_numerator p_Exa_a1 (Or.inr ⟨(tw hw 24 rfl), rfl, hnm⟩) (tw hw 10 rfl) pf_2 rfl rfl (g := (mkF m 6 #[rv a1, rv x1, rv x2] [.ref x1, .ref a1])) rfl rfl d6
 have N2 := Fr.snoc X2 N0 ge1
 have Fw2 : Fld Z h2 a1 "com/example/curves_to_bounds/curvestobounds/curve/Rational" "numerator" "Ljava/math/BigInteger;" (.ref x1) := p_Fld_a1_numerator.same W2
 refine zt 9 [] st2 ?_
 refine zR X2 hx d9 rfl rfl 10 rfl ?_
 refine zR X2 hx d10 rfl rfl 11 rfl ?_
 have F3 := (p_Exa_a1.wr W2)
 have F4 := (p_Fld_a1_denominator.other W2 (Or.inr (sn_com_example_curves_to_bounds_curvestobounds_curve_Rational_denominator__numerator hw)))
 obtain ⟨T5, h5, X5, e5, W5, st5⟩ := putF X2 hx hZ hown (host := "") (Or.inl (tw hw 25 rfl)) Via.refl e2 F4 F3 (Or.inr ⟨(tw hw 26 rfl), rfl, hnm⟩) (tw hw 10 rfl) pf_2 rfl rfl (g := (mkF m 11 #[rv a1, rv x1, rv x2] [.ref x2, .ref a1])) rfl rfl d11
 have N5 := Fr.snoc X5 N2 ge1
 have Fw5 : Fld Z h5 a1 "com/example/curves_to_bounds/curvestobounds/curve/Rational" "denominator" "Ljava/math/BigInteger;" (.ref x2) := F4.same W5
 refine zt 14 [] st5 ?_
 have F6 := (F3.wr W5)
 have F7 := (Fw2.other W5 (Or.inr (sn_com_example_curves_to_bounds_curvestobounds_curve_Rational_numerator__denominator hw)))
 exact own_finV X5 hx hlk hre d14 e5 (K := _) ⟨rfl, N5, (((Keep.refl h0 [a1]).wr W2 (Or.inl (List.mem_of_getElem? (i := 0) rfl))).wr W5 (Or.inl (List.mem_of_getElem? (i := 0) rfl))), F6, F7, Fw5⟩ (by decide) (by decide)
def QrmVr (Z : State) (pj : Int64) (h0 : Heap) (n0 : Nat) (v : Option Value) (h : Heap) (L : List Loc) : Prop := ∃ x : Addr, ∃ nu : Addr, ∃ de : Addr, v = some (.ref x) ∧ Fr n0 L ∧ Keep h0 h [] ∧ (Exa Z h x "com/example/curves_to_bounds/curvestobounds/curve/Rational") ∧ (Fld Z h x "com/example/curves_to_bounds/curvestobounds/curve/Rational" "numerator" "Ljava/math/BigInteger;" (.ref nu)) ∧ (Fld Z h x "com/example/curves_to_bounds/curvestobounds/curve/Rational" "denominator" "Ljava/math/BigInteger;" (.ref de)) ∧ (BI Z h nu (pj.toInt)) ∧ (BI Z h de (1 : Int))
abbrev RrmVr : Room := { frames := 4, cells := 3, slots := 10, locals := 55 }
theorem rmVr (l : Launch) (Z : State) (a0 : Array Value) (hw : ∀ d ∈ tables_1, d.before a0 Z = true) (ws : List Jvm.Cond) (pj : Int64) (h0 : Heap) (n0 : Nat) (Z0 : n0 ≤ h0.size) (zA oA pA nA : Addr) (kP kN : ClassId) (vP vN : List Value) (G0 : Gl Z zA oA pA nA kP kN vP vN) (X00 : Old Z n0 h0)  : Mf l Z Nm32 prog_31_method_2_code 2 (Option.some (Jvm.ClassFile.FieldType.object "com/example/curves_to_bounds/curvestobounds/curve/Rational")) ws RrmVr #[(.long pj)] h0 (QrmVr Z pj h0 n0) := by
 refine own_entry (plainFor_of_name pn_com_example_curves_to_bounds_curvestobounds_curve_Rational) #[.val (.long pj), .second] (fun _ => rfl) fun p e s m below meth c s₁ hx hby hml hown hnm hlk hre hZ X0 e0 => ?_
 have N0 := Fr.nil n0
 obtain ⟨d0, d3, d4, d5, d8, d11, d14, -⟩ := D_32 hby
 obtain ⟨SZ, BZ, SO, BO, SP, AP, hcP, SN, AN, hcN⟩ := id G0
 obtain ⟨T1, h1, X1, e1, E1, A1, D1, -, st1⟩ := newO X0 hx hZ hown (tw hw 9 rfl) (tw hw 10 rfl) (tw hw 7 rfl) e0 (g := (mkF m 0 #[.val (.long pj), .second] [])) rfl d0 (by decide) (by decide)
 obtain ⟨b1, g1⟩ : ∃ z, z = h0.size := ⟨_, rfl⟩
 rw [← g1] at A1 D1 st1
 have X1 := own_reX X1 (rfl : _ = 1) (rfl : _ = 2)
 refine zt 3 [.ref b1] st1 ?_
 refine zD X1 hx d3 rfl 4 rfl ?_
 refine zJ X1 hx d4 rfl 5 rfl ?_
 have F2 := (X00.ext E1)
 refine zCS X1 hx hZ hml hown (tw hw 11 rfl) (tw hw 12 rfl) (tw hw 13 rfl) (tw hw 14 rfl) (rmVo l Z a0 hw [] pj h1 n0 (Nat.le_trans Z0 E1.1) zA oA pA nA kP kN vP vN G0 F2) 2 (by decide) [.ref b1, .ref b1] rfl (lenOf pd_18 rfl) rfl (Nat.le_of_eq rfl) e1 d5 8 rfl fun T3 L3 v3 X3 ⟨Lc3, hQ3, l3⟩ => ?_
 have X3 := own_reX X3 (rfl : _ = 3) (rfl : _ = 10)
 obtain ⟨x_3, rfl, Nq3, K3, f3_0⟩ := hQ3
 have N3 := own_frApp N0 Nq3 l3
 refine zx [.ref x_3, .ref b1, .ref b1] rfl ?_
 have F4 := (F2.keep K3 all0)
 obtain ⟨T5, X5, e5, st5⟩ := getS (host := "") X3 hx hZ hown (tw hw 16 rfl) Via.refl rfl (SO.ext F4.2) (g := (mkF m 8 #[.val (.long pj), .second] [.ref x_3, .ref b1, .ref b1])) rfl d8
 refine zt 11 [.ref oA, .ref x_3, .ref b1, .ref b1] st5 ?_
 have F6 := (A1.keep K3)
 have F7 := ((D1 (Or.inr (tw hw 24 rfl)) pf_2).keep K3 nin0)
 have F8 := ((D1 (Or.inr (tw hw 26 rfl)) pf_2).keep K3 nin0)
 refine zCI X5 hx hZ hml rfl rfl hown (tw hw 17 rfl) (tw hw 18 rfl) (tw hw 7 rfl) (tw hw 19 rfl) (rmRI l Z a0 hw [] b1 x_3 oA T3.heap n0 (Nat.le_trans Z0 (Nat.le_trans E1.1 K3.1)) F6 F7 F8 (Nat.le_trans (Nat.le_trans Z0 (Nat.le_refl _)) (Nat.le_of_eq g1.symm))) 1 (by decide) b1 [.ref b1] rfl rfl (lenOf pd_19 rfl) rfl (Nat.le_of_eq rfl) e5 d11 14 rfl fun T9 L9 v9 X9 ⟨Lc9, hQ9, l9⟩ => ?_
 obtain ⟨rfl, Nq9, K9, f9_0, f9_1, f9_2⟩ := hQ9
 have N9 := own_frApp N3 Nq9 l9
 refine zx [.ref b1] rfl ?_
 have K10 : Keep h0 T9.heap [] := ((((Keep.refl h0 []).ext E1).trans K3 all0).trans K9 (allS (Or.inr (Nat.le_trans (Nat.le_refl _) (Nat.le_of_eq g1.symm))) all0))
 have F11 := (BI.keepX f3_0 K9 (A1.keep K3) (by decide) (by decide))
 have F12 := (BI.keep (BO.ext X00.2) ((Keep.refl h0 []).trans K10 all0))
 exact own_finR X9 hx hlk hre rfl rfl d14 rfl ⟨b1, x_3, oA, rfl, N9, ((Keep.refl h0 []).trans K10 all0), f9_0, f9_1, f9_2, F11, F12⟩ (by decide) (by decide)
def QrmRnn (Z : State) (a1 : Addr) (s1 : Addr) (h0 : Heap) (n0 : Nat) (v : Option Value) (h : Heap) (L : List Loc) : Prop := v = some (.ref a1) ∧ Fr n0 L ∧ h = h0
abbrev RrmRnn : Room := { frames := 0, cells := 0, slots := 0, locals := 0 }
theorem rmRnn (l : Launch) (Z : State) (a0 : Array Value) (hw : ∀ d ∈ tables_1, d.before a0 Z = true) (ws : List Jvm.Cond) (a1 : Addr) (s1 : Addr) (h0 : Heap) (n0 : Nat) (Z0 : n0 ≤ h0.size)   : Mf l Z Nm33 jdk_31_method_11_code 2 (Option.some (Jvm.ClassFile.FieldType.object "java/lang/Object")) ws RrmRnn #[(.ref a1), (.ref s1)] h0 (QrmRnn Z a1 s1 h0 n0) := by
 refine own_entry (plainFor_of_name pn_java_util_Objects) #[rv a1, rv s1] (fun _ => rfl) fun p e s m below meth c s₁ hx hby hml hown hnm hlk hre hZ X0 e0 => ?_
 have N0 := Fr.nil n0
 obtain ⟨d0, d1, d13, d14, -⟩ := D_33 hby
 refine zR X0 hx d0 rfl rfl 1 rfl ?_
 refine zq 13 [] (fun t k => XS.ifnonnullYes X0.here hx rfl (pc0 := 1) (pc' := 13) rfl d1 rfl (by decide) (by decide) k) ?_
 refine zR X0 hx d13 rfl rfl 14 rfl ?_
 exact own_finR X0 hx hlk hre rfl rfl d14 e0 ⟨rfl, N0, rfl⟩ (by decide) (by decide)
def QrmSgB1 (Z : State) (a : Addr) (h0 : Heap) (n0 : Nat) (v : Option Value) (h : Heap) (L : List Loc) : Prop := v = some (.int (1 : Int32)) ∧ Fr n0 L ∧ h = h0
abbrev RrmSgB1 : Room := { frames := 0, cells := 0, slots := 0, locals := 0 }
theorem rmSgB1 (l : Launch) (Z : State) (a0 : Array Value) (hw : ∀ d ∈ tables_1, d.before a0 Z = true) (ws : List Jvm.Cond) (a : Addr) (h0 : Heap) (n0 : Nat) (Z0 : n0 ≤ h0.size)  (p_BI_a : BI Z h0 a (1 : Int)) : Mf l Z Nm34 jdk_2097_method_81_code 1 (Option.some Jvm.ClassFile.FieldType.int) ws RrmSgB1 #[(.ref a)] h0 (QrmSgB1 Z a h0 n0) := by
 refine own_entry (plainFor_of_name pn_java_math_BigInteger) #[rv a] (fun _ => rfl) fun p e s m below meth c s₁ hx hby hml hown hnm hlk hre hZ X0 e0 => ?_
 have N0 := Fr.nil n0
 obtain ⟨d0, d1, d4, -⟩ := D_34 hby
 obtain ⟨m1, km1, Eb1, Fm1, Em1, Fs1, Ar1⟩ := BI.one p_BI_a
 refine zR X0 hx d0 rfl rfl 1 rfl ?_
 refine zP X0 hx hZ hown (tw hw 47 rfl) e0 Fs1 d1 4 rfl fun T2 X2 e2 => ?_
 exact own_finI X2 hx hlk (t := .int) hre (by simp) rfl d4 e2 ⟨rfl, N0, rfl⟩ (by decide) (by decide)
def QrmVb (Z : State) (a : Addr) (b : Addr) (vv : Int) (h0 : Heap) (n0 : Nat) (v : Option Value) (h : Heap) (L : List Loc) : Prop := ∃ x : Addr, ∃ nu : Addr, ∃ de : Addr, v = some (.ref x) ∧ Fr n0 L ∧ Keep h0 h [] ∧ (Exa Z h x "com/example/curves_to_bounds/curvestobounds/curve/Rational") ∧ (Fld Z h x "com/example/curves_to_bounds/curvestobounds/curve/Rational" "numerator" "Ljava/math/BigInteger;" (.ref nu)) ∧ (Fld Z h x "com/example/curves_to_bounds/curvestobounds/curve/Rational" "denominator" "Ljava/math/BigInteger;" (.ref de)) ∧ (BI Z h nu vv) ∧ (BI Z h de (1 : Int))
abbrev RrmVb : Room := { frames := 6, cells := 26, slots := 149, locals := 98 }
theorem ef_rmVb (m : MethodId) (a : Addr) (b : Addr)  : entryFrame m #[(.ref a), (.ref b)] 5 = mkF m 0 #[.val (.ref a), .val (.ref b), .unset, .unset, .unset] [] := by first | (simp [entryFrame, mkF, argsToLocals, maxLocals, Value.category]; done) | rfl
theorem rmVb (l : Launch) (Z : State) (a0 : Array Value) (hw : ∀ d ∈ tables_1, d.before a0 Z = true) (ws : List Jvm.Cond) (a : Addr) (b : Addr) (vv : Int) (h0 : Heap) (n0 : Nat) (Z0 : n0 ≤ h0.size) (zA oA pA nA : Addr) (kP kN : ClassId) (vP vN : List Value) (G0 : Gl Z zA oA pA nA kP kN vP vN) (X00 : Old Z n0 h0) (p_BI_a : BI Z h0 a vv) (p_BI_b : BI Z h0 b (1 : Int)) :
    MetFree l Nm35 (head1 (Jvm.Cond.code Nm35 prog_31_method_4_code 5 (Option.some (Jvm.ClassFile.FieldType.object "com/example/curves_to_bounds/curvestobounds/curve/Rational")) :: ws) RrmVb) (fun aA U => aA = #[(.ref a), (.ref b)] ∧ Z.Warmed39 U.vm ∧ U.heap = h0 ∧ CHv Z consts_1 U.vm h0) (fun _ _ _ _ _ => True) (fun _ U o U' => ∃ v L, o = .returned v ∧ QrmVb Z a b vv h0 n0 v U'.heap L ∧ CHr Z consts_1 U.vm U.heap U'.vm U'.heap ∧ ReturnedEndW U o U' L RrmVb.cells RrmVb.slots) := by
 refine MetFree.of_bodySF (plainFor_of_name pn_com_example_curves_to_bounds_curvestobounds_curve_Rational) hisR ?_
 intro p e s m args below meth c s₁ Bd hml0 hP hK
 obtain ⟨rfl, hZ, hh, CH0⟩ := hP
 have hx := Bd.exec
 have hby := Bd.bytes
 have hml : c.maxLocals = 5 := hml0
 have hown : s.vm.findClass "com/example/curves_to_bounds/curvestobounds/curve/Rational" = some m.cls := findClass_of_methodNamed Bd.named
 have hnm := (name_of_methodNamed Bd.named Bd.method).1
 have hlk : meth.locks = false := BodyLoose.notSynchronized Bd
 have X0 : Stand p l e RrmVb (s.setVm s.vm) m #[(.ref a), (.ref b)] below meth c s₁ [] 0 0 := Stand.of_body Bd
 have e0 : s₁.heap = h0 := by rw [← hh, Bd.state]; rfl
 have N0 := Fr.nil n0
 obtain ⟨SZ, BZ, SO, BO, SP, AP, hcP, SN, AN, hcN⟩ := id G0
 obtain ⟨d0, d1, d3, d6, d7, d8, d10, d13, d14, d15, d18, d38, d39, d40, d43, d44, d45, d46, d49, d50, d51, d52, d55, d57, d59, d62, d77, d80, d81, d82, d84, d87, -⟩ := D_35 hby
 have hS0 : s.Since s.vm 0 := (State.WarmedH.refl s).since 0
 have CR0 : CHr Z consts_1 s.vm h0 s.vm h0 := CHr.refl CH0
 show Ends p.tables e below (fun o U' => ∃ v L, o = .returned v ∧ QrmVb Z a b vv h0 n0 v U'.heap L ∧ CHr Z consts_1 s.vm s.heap U'.vm U'.heap ∧ ReturnedEndW s o U' L RrmVb.cells RrmVb.slots) (s₁.setTop (entryFrame m #[(.ref a), (.ref b)] 5))
 refine Ends.step (fun t k => castTop (ef_rmVb m a b ) k) ?_
 refine zR X0 hx d0 rfl rfl 1 rfl ?_
 obtain ⟨s1, T1, h1, kk1, X1, e1, E1, hS1, hk1, hZ1, hown1, CRc1, Li1, st1⟩ := ldcOH (s := s) (vm0 := s.vm) X0 hx hZ hown (tw hw 89 rfl) (own_wS hw) e0 hS0 (Nat.zero_le _) (own_hEL hw) CR0.1 (g := (mkF m 1 #[rv a, rv b, .unset, .unset, .unset] [.ref a])) rfl d1 (n := 36) (by decide) (by decide) (by decide) (by decide)
 have CR1 := CR0.trans CRc1
 refine zt 3 [.ref s1, .ref a] st1 ?_
 have X1 := own_reX X1 (rfl : _ = 2) (rfl : _ = 40)
 refine zCS X1 hx hZ1 hml hown1 (tw hw 97 rfl) (tw hw 98 rfl) (tw hw 99 rfl) (tw hw 100 rfl) (rmRnn l Z a0 hw [] a s1 h1 n0 (Nat.le_trans Z0 E1.1)) 0 (by decide) [] rfl (lenOf pd_20 rfl) rfl (Nat.le_of_eq rfl) e1 d3 6 rfl fun T2 L2 v2 X2 ⟨Lc2, hQ2, l2⟩ => ?_
 obtain ⟨rfl, Nq2, eh2⟩ := hQ2
 have N2 := own_frApp N0 Nq2 l2
 refine zx [.ref a] rfl ?_
 refine zq 7 [] (fun t k => XS.pop X2.here hx rfl d6 rfl rfl k) ?_
 refine zR X2 hx d7 rfl rfl 8 rfl ?_
 obtain ⟨s3, T3, h3, kk3, X3, e3, E3, hS3, hk3, hZ3, hown3, CRc3, Li3, st3⟩ := ldcOH (s := s) (vm0 := T1.vm) X2 hx hZ1 hown1 (tw hw 101 rfl) (own_wS hw) eh2 hS1 hk1 (own_hEL hw) CR1.1 (g := (mkF m 8 #[rv a, rv b, .unset, .unset, .unset] [.ref b])) rfl d8 (n := 44) (by decide) (by decide) (by decide) (by decide)
 have CR3 := CR1.trans CRc3
 refine zt 10 [.ref s3, .ref b] st3 ?_
 have X3 := own_reX X3 (rfl : _ = 4) (rfl : _ = 88)
 refine zCS X3 hx hZ3 hml hown3 (tw hw 97 rfl) (tw hw 98 rfl) (tw hw 99 rfl) (tw hw 100 rfl) (rmRnn l Z a0 hw [] b s3 h3 n0 (Nat.le_trans Z0 (Nat.le_trans E1.1 E3.1))) 0 (by decide) [] rfl (lenOf pd_20 rfl) rfl (Nat.le_of_eq rfl) e3 d10 13 rfl fun T4 L4 v4 X4 ⟨Lc4, hQ4, l4⟩ => ?_
 obtain ⟨rfl, Nq4, eh4⟩ := hQ4
 have N4 := own_frApp N2 Nq4 l4
 refine zx [.ref b] rfl ?_
 refine zq 14 [] (fun t k => XS.pop X4.here hx rfl d13 rfl rfl k) ?_
 refine zR X4 hx d14 rfl rfl 15 rfl ?_
 have F5 := (((BI.exa p_BI_b).ext E1).ext E3)
 have F6 := (BI.keep p_BI_b (((Keep.refl h0 []).ext E1).ext E3))
 refine zCV X4 hx hZ3 hml hown3 (tw hw 102 rfl) (tw hw 103 rfl) (tw hw 13 rfl) (tw hw 106 rfl) (tw hw 105 rfl) (tw hw 104 rfl) (rmSgB1 l Z a0 hw [] b h3 n0 (Nat.le_trans Z0 (Nat.le_trans E1.1 E3.1)) F6) 0 (by decide) b [] rfl rfl (lenOf pd_4 rfl) rfl (Nat.le_of_eq rfl) eh4 F5 d15 18 rfl fun T7 L7 v7 X7 ⟨Lc7, hQ7, l7⟩ => ?_
 obtain ⟨rfl, Nq7, eh7⟩ := hQ7
 have N7 := own_frApp N4 Nq7 l7
 refine zx [.int 1] rfl ?_
 refine zY X7 hx d18 ((if0 _ _).trans (feq (by decide : ¬ ((1 : Int32) = (0 : Int32)))).2) 38 (by decide) ?_
 refine zR X7 hx d38 rfl rfl 39 rfl ?_
 refine zR X7 hx d39 rfl rfl 40 rfl ?_
 have F8 := (((BI.exa p_BI_a).ext E1).ext E3)
 have F9 := (BI.keep p_BI_a (((Keep.refl h0 []).ext E1).ext E3))
 refine zCV X7 hx hZ3 hml hown3 (tw hw 107 rfl) (tw hw 108 rfl) (tw hw 13 rfl) (tw hw 111 rfl) (tw hw 110 rfl) (tw hw 109 rfl) (rmGcd l Z a0 hw [] a b vv h3 n0 (Nat.le_trans Z0 (Nat.le_trans E1.1 E3.1)) F9 F6) 0 (by decide) a [] rfl rfl (lenOf pd_16 rfl) rfl (Nat.le_of_eq rfl) eh7 F8 d40 43 rfl fun T10 L10 v10 X10 ⟨Lc10, hQ10, l10⟩ => ?_
 have X10 := own_reX X10 (rfl : _ = 13) (rfl : _ = 111)
 obtain ⟨g_10, rfl, Nq10, K10, f10_0⟩ := hQ10
 have N10 := own_frApp N7 Nq10 l10
 refine zx [.ref g_10] rfl ?_
 refine zl 44 _ [] (fun t k => XS.astoreN X10.here hx rfl d43 rfl rfl (l' := #[rv a, rv b, rv g_10, .unset, .unset]) rfl k) ?_
 refine zR X10 hx d44 rfl rfl 45 rfl ?_
 refine zR X10 hx d45 rfl rfl 46 rfl ?_
 have F11 := (F8.keep K10)
 have F12 := (BI.keep F9 ((Keep.refl h3 []).trans K10 all0))
 have F13 := (((X00.ext E1).ext E3).keep K10 all0)
 refine zCV X10 hx hZ3 hml hown3 (tw hw 117 rfl) (tw hw 118 rfl) (tw hw 13 rfl) (tw hw 121 rfl) (tw hw 120 rfl) (tw hw 119 rfl) (rmDiv l Z a0 hw [] a g_10 vv T10.heap n0 (Nat.le_trans Z0 (Nat.le_trans (Nat.le_trans E1.1 E3.1) K10.1)) zA oA pA nA kP kN vP vN G0 F13 F12 f10_0) 0 (by decide) a [] rfl rfl (lenOf pd_16 rfl) rfl (Nat.le_of_eq rfl) rfl F11 d46 49 rfl fun T14 L14 v14 X14 ⟨Lc14, hQ14, l14⟩ => ?_
 have X14 := own_reX X14 (rfl : _ = 19) (rfl : _ = 129)
 obtain ⟨g_14, rfl, Nq14, K14, f14_0⟩ := hQ14
 have N14 := own_frApp N10 Nq14 l14
 refine zx [.ref g_14] rfl ?_
 refine zl 50 _ [] (fun t k => XS.astoreN X14.here hx rfl d49 rfl rfl (l' := #[rv a, rv b, rv g_10, rv g_14, .unset]) rfl k) ?_
 refine zR X14 hx d50 rfl rfl 51 rfl ?_
 refine zR X14 hx d51 rfl rfl 52 rfl ?_
 have F15 := ((F5.keep K10).keep K14)
 have F16 := (BI.keep F6 (((Keep.refl h3 []).trans K10 all0).trans K14 all0))
 have F17 := (BI.keep f10_0 ((Keep.refl T10.heap []).trans K14 all0))
 have F18 := (F13.keep K14 all0)
 refine zCV X14 hx hZ3 hml hown3 (tw hw 117 rfl) (tw hw 118 rfl) (tw hw 13 rfl) (tw hw 121 rfl) (tw hw 120 rfl) (tw hw 119 rfl) (rmDiv l Z a0 hw [] b g_10 (1 : Int) T14.heap n0 (Nat.le_trans Z0 (Nat.le_trans (Nat.le_trans (Nat.le_trans E1.1 E3.1) K10.1) K14.1)) zA oA pA nA kP kN vP vN G0 F18 F16 F17) 0 (by decide) b [] rfl rfl (lenOf pd_16 rfl) rfl (Nat.le_of_eq rfl) rfl F15 d52 55 rfl fun T19 L19 v19 X19 ⟨Lc19, hQ19, l19⟩ => ?_
 have X19 := own_reX X19 (rfl : _ = 25) (rfl : _ = 147)
 obtain ⟨g_19, rfl, Nq19, K19, f19_0⟩ := hQ19
 have N19 := own_frApp N14 Nq19 l19
 refine zx [.ref g_19] rfl ?_
 refine zl 57 _ [] (fun t k => XS.astore X19.here hx rfl d55 rfl rfl (l' := #[rv a, rv b, rv g_10, rv g_14, rv g_19]) rfl k) ?_
 refine zR2 X19 hx d57 rfl rfl 59 rfl ?_
 refine zCV X19 hx hZ3 hml hown3 (tw hw 102 rfl) (tw hw 103 rfl) (tw hw 13 rfl) (tw hw 106 rfl) (tw hw 105 rfl) (tw hw 104 rfl) (rmSgB1 l Z a0 hw [] g_19 T19.heap n0 (Nat.le_trans Z0 (Nat.le_trans (Nat.le_trans (Nat.le_trans (Nat.le_trans E1.1 E3.1) K10.1) K14.1) K19.1)) f19_0) 0 (by decide) g_19 [] rfl rfl (lenOf pd_4 rfl) rfl (Nat.le_of_eq rfl) rfl (BI.exa f19_0) d59 62 rfl fun T20 L20 v20 X20 ⟨Lc20, hQ20, l20⟩ => ?_
 obtain ⟨rfl, Nq20, eh20⟩ := hQ20
 have N20 := own_frApp N19 Nq20 l20
 refine zx [.int 1] rfl ?_
 refine zY X20 hx d62 ((if0 _ _).trans (flt (by decide : ¬ ((1 : Int32) < (0 : Int32)))).2.1) 77 (by decide) ?_
 obtain ⟨T21, h21, X21, e21, E21, A21, D21, -, st21⟩ := newO X20 hx hZ3 hown3 (tw hw 9 rfl) (tw hw 10 rfl) (tw hw 7 rfl) eh20 (g := (mkF m 77 #[rv a, rv b, rv g_10, rv g_14, rv g_19] [])) rfl d77 (by decide) (by decide)
 obtain ⟨b21, g21⟩ : ∃ z, z = T19.heap.size := ⟨_, rfl⟩
 rw [← g21] at A21 D21 st21
 have X21 := own_reX X21 (rfl : _ = 26) (rfl : _ = 149)
 refine zt 80 [.ref b21] st21 ?_
 refine zD X21 hx d80 rfl 81 rfl ?_
 refine zR X21 hx d81 rfl rfl 82 rfl ?_
 refine zR2 X21 hx d82 rfl rfl 84 rfl ?_
 refine zCI X21 hx hZ3 hml rfl rfl hown3 (tw hw 17 rfl) (tw hw 18 rfl) (tw hw 7 rfl) (tw hw 19 rfl) (rmRI l Z a0 hw [] b21 g_14 g_19 h21 n0 (Nat.le_trans Z0 (Nat.le_trans (Nat.le_trans (Nat.le_trans (Nat.le_trans (Nat.le_trans E1.1 E3.1) K10.1) K14.1) K19.1) E21.1)) A21 (D21 (Or.inr (tw hw 24 rfl)) pf_2) (D21 (Or.inr (tw hw 26 rfl)) pf_2) (Nat.le_trans (Nat.le_trans Z0 (Nat.le_trans (Nat.le_trans (Nat.le_trans (Nat.le_trans E1.1 E3.1) K10.1) K14.1) K19.1)) (Nat.le_of_eq g21.symm))) 1 (by decide) b21 [.ref b21] rfl rfl (lenOf pd_19 rfl) rfl (Nat.le_of_eq rfl) e21 d84 87 rfl fun T22 L22 v22 X22 ⟨Lc22, hQ22, l22⟩ => ?_
 obtain ⟨rfl, Nq22, K22, f22_0, f22_1, f22_2⟩ := hQ22
 have N22 := own_frApp N20 Nq22 l22
 refine zx [.ref b21] rfl ?_
 have K23 : Keep T19.heap T22.heap [] := (((Keep.refl T19.heap []).ext E21).trans K22 (allS (Or.inr (Nat.le_trans (Nat.le_refl _) (Nat.le_of_eq g21.symm))) all0))
 have F24 := (BI.keep f14_0 (((Keep.refl T14.heap []).trans K19 all0).trans K23 all0))
 have F25 := (BI.keep f19_0 ((Keep.refl T19.heap []).trans K23 all0))
 have CR26 := own_chrK CR3 K10
 have CR27 := own_chrK CR26 K14
 have CR28 := own_chrK CR27 K19
 have CR29 := own_chrK CR28 K23
 exact own_finRW X22 hS3 hx hlk hh (own_hEL hw) (Nat.le_trans hk3 (Nat.le_trans (Nat.le_trans (Nat.le_trans K10.1 K14.1) K19.1) K23.1)) CR29 hZ3 Bd.returns rfl rfl d87 rfl ⟨b21, g_14, g_19, rfl, N22, (((((((Keep.refl h0 []).ext E1).ext E3).trans K10 all0).trans K14 all0).trans K19 all0).trans K23 all0), f22_0, f22_1, f22_2, F24, F25⟩ (by decide) (by decide)
def QrmBc1 (Z : State)  (h0 : Heap) (n0 : Nat) (v : Option Value) (h : Heap) (L : List Loc) : Prop := v = some (.int (1 : Int32)) ∧ Fr n0 L ∧ h = h0
abbrev RrmBc1 : Room := { frames := 0, cells := 0, slots := 0, locals := 0 }
theorem rmBc1 (l : Launch) (Z : State) (a0 : Array Value) (hw : ∀ d ∈ tables_1, d.before a0 Z = true) (ws : List Jvm.Cond)  (h0 : Heap) (n0 : Nat) (Z0 : n0 ≤ h0.size)   : Mf l Z Nm36 jdk_33_method_49_code 1 (Option.some Jvm.ClassFile.FieldType.int) ws RrmBc1 #[(.int (1 : Int32))] h0 (QrmBc1 Z  h0 n0) := by
 refine own_entry (plainFor_of_name pn_java_lang_Integer) #[iv 1] (fun _ => rfl) fun p e s m below meth c s₁ hx hby hml hown hnm hlk hre hZ X0 e0 => ?_
 have N0 := Fr.nil n0
 obtain ⟨d0, d1, d2, d3, d4, d7, d8, d9, d10, d11, d14, d15, d16, d17, d18, d21, d22, d23, d24, d25, d26, d27, d28, d29, d32, d33, d34, d35, d36, d38, d39, d40, d41, d42, d43, d45, d46, d47, d48, d49, d51, d52, -⟩ := D_36 hby
 refine zI X0 hx d0 rfl 1 rfl ?_
 refine zI X0 hx d1 rfl 2 rfl ?_
 refine zK X0 hx d2 1 rfl 3 rfl ?_
 refine zq 4 [.int (((1 : Int32).toUInt32 >>> ((1 : Int32) &&& 31).toUInt32).toInt32), .int 1] (fun t k => XS.iushr X0.here hx rfl d3 rfl k) ?_
 have rw1 : (((1 : Int32).toUInt32 >>> ((1 : Int32) &&& 31).toUInt32).toInt32) = (0 : Int32) := (by decide)
 rw [rw1]
 refine zq 7 [.int 1431655765, .int 0, .int 1] (fun t k => X0.ldcWInt hx hown (mvT hZ (tw hw 58 rfl)) (g := (mkF m 4 #[iv 1] [.int 0, .int 1])) rfl d4 _ k) ?_
 refine zq 8 [.int ((0 : Int32) &&& (1431655765 : Int32)), .int 1] (fun t k => XS.iand X0.here hx rfl d7 rfl k) ?_
 have rw2 : ((0 : Int32) &&& (1431655765 : Int32)) = (0 : Int32) := (by decide)
 rw [rw2]
 refine zq 9 [.int 1] (fun t k => XS.isub X0.here hx rfl d8 rfl k) ?_
 refine zl 10 _ [] (fun t k => XS.istoreN X0.here hx rfl d9 rfl (l' := #[iv 1]) rfl k) ?_
 refine zI X0 hx d10 rfl 11 rfl ?_
 refine zq 14 [.int 858993459, .int 1] (fun t k => X0.ldcWInt hx hown (mvT hZ (tw hw 59 rfl)) (g := (mkF m 11 #[iv 1] [.int 1])) rfl d11 _ k) ?_
 refine zq 15 [.int ((1 : Int32) &&& (858993459 : Int32))] (fun t k => XS.iand X0.here hx rfl d14 rfl k) ?_
 have rw3 : ((1 : Int32) &&& (858993459 : Int32)) = (1 : Int32) := (by decide)
 rw [rw3]
 refine zI X0 hx d15 rfl 16 rfl ?_
 refine zK X0 hx d16 2 rfl 17 rfl ?_
 refine zq 18 [.int (((1 : Int32).toUInt32 >>> ((2 : Int32) &&& 31).toUInt32).toInt32), .int 1] (fun t k => XS.iushr X0.here hx rfl d17 rfl k) ?_
 have rw4 : (((1 : Int32).toUInt32 >>> ((2 : Int32) &&& 31).toUInt32).toInt32) = (0 : Int32) := (by decide)
 rw [rw4]
 refine zq 21 [.int 858993459, .int 0, .int 1] (fun t k => X0.ldcWInt hx hown (mvT hZ (tw hw 59 rfl)) (g := (mkF m 18 #[iv 1] [.int 0, .int 1])) rfl d18 _ k) ?_
 refine zq 22 [.int ((0 : Int32) &&& (858993459 : Int32)), .int 1] (fun t k => XS.iand X0.here hx rfl d21 rfl k) ?_
 have rw5 : ((0 : Int32) &&& (858993459 : Int32)) = (0 : Int32) := (by decide)
 rw [rw5]
 refine zq 23 [.int 1] (fun t k => XS.iadd X0.here hx rfl d22 rfl k) ?_
 refine zl 24 _ [] (fun t k => XS.istoreN X0.here hx rfl d23 rfl (l' := #[iv 1]) rfl k) ?_
 refine zI X0 hx d24 rfl 25 rfl ?_
 refine zI X0 hx d25 rfl 26 rfl ?_
 refine zK X0 hx d26 4 rfl 27 rfl ?_
 refine zq 28 [.int (((1 : Int32).toUInt32 >>> ((4 : Int32) &&& 31).toUInt32).toInt32), .int 1] (fun t k => XS.iushr X0.here hx rfl d27 rfl k) ?_
 have rw6 : (((1 : Int32).toUInt32 >>> ((4 : Int32) &&& 31).toUInt32).toInt32) = (0 : Int32) := (by decide)
 rw [rw6]
 refine zq 29 [.int 1] (fun t k => XS.iadd X0.here hx rfl d28 rfl k) ?_
 refine zq 32 [.int 252645135, .int 1] (fun t k => X0.ldcWInt hx hown (mvT hZ (tw hw 60 rfl)) (g := (mkF m 29 #[iv 1] [.int 1])) rfl d29 _ k) ?_
 refine zq 33 [.int ((1 : Int32) &&& (252645135 : Int32))] (fun t k => XS.iand X0.here hx rfl d32 rfl k) ?_
 have rw7 : ((1 : Int32) &&& (252645135 : Int32)) = (1 : Int32) := (by decide)
 rw [rw7]
 refine zl 34 _ [] (fun t k => XS.istoreN X0.here hx rfl d33 rfl (l' := #[iv 1]) rfl k) ?_
 refine zI X0 hx d34 rfl 35 rfl ?_
 refine zI X0 hx d35 rfl 36 rfl ?_
 refine zq 38 [.int 8, .int 1, .int 1] (fun t k => XS.bipush X0.here hx rfl d36 k) ?_
 refine zq 39 [.int (((1 : Int32).toUInt32 >>> ((8 : Int32) &&& 31).toUInt32).toInt32), .int 1] (fun t k => XS.iushr X0.here hx rfl d38 rfl k) ?_
 have rw8 : (((1 : Int32).toUInt32 >>> ((8 : Int32) &&& 31).toUInt32).toInt32) = (0 : Int32) := (by decide)
 rw [rw8]
 refine zq 40 [.int 1] (fun t k => XS.iadd X0.here hx rfl d39 rfl k) ?_
 refine zl 41 _ [] (fun t k => XS.istoreN X0.here hx rfl d40 rfl (l' := #[iv 1]) rfl k) ?_
 refine zI X0 hx d41 rfl 42 rfl ?_
 refine zI X0 hx d42 rfl 43 rfl ?_
 refine zq 45 [.int 16, .int 1, .int 1] (fun t k => XS.bipush X0.here hx rfl d43 k) ?_
 refine zq 46 [.int (((1 : Int32).toUInt32 >>> ((16 : Int32) &&& 31).toUInt32).toInt32), .int 1] (fun t k => XS.iushr X0.here hx rfl d45 rfl k) ?_
 have rw9 : (((1 : Int32).toUInt32 >>> ((16 : Int32) &&& 31).toUInt32).toInt32) = (0 : Int32) := (by decide)
 rw [rw9]
 refine zq 47 [.int 1] (fun t k => XS.iadd X0.here hx rfl d46 rfl k) ?_
 refine zl 48 _ [] (fun t k => XS.istoreN X0.here hx rfl d47 rfl (l' := #[iv 1]) rfl k) ?_
 refine zI X0 hx d48 rfl 49 rfl ?_
 refine zq 51 [.int 63, .int 1] (fun t k => XS.bipush X0.here hx rfl d49 k) ?_
 refine zq 52 [.int ((1 : Int32) &&& (63 : Int32))] (fun t k => XS.iand X0.here hx rfl d51 rfl k) ?_
 have rw10 : ((1 : Int32) &&& (63 : Int32)) = (1 : Int32) := (by decide)
 rw [rw10]
 exact own_finI X0 hx hlk (t := .int) hre (by simp) rfl d52 e0 ⟨rfl, N0, rfl⟩ (by decide) (by decide)
def QrmSl01 (Z : State) (ma : Addr) (k : ClassId) (x : Int32) (h0 : Heap) (n0 : Nat) (v : Option Value) (h : Heap) (L : List Loc) : Prop := ∃ ca : Addr, ∃ kc : ClassId, v = some (.ref ca) ∧ Fr n0 L ∧ Keep h0 h [] ∧ (h0.size ≤ ca) ∧ (Arv Z h ca kc .int (1 : Int32) [(.int x)] (.int (0 : Int32))) ∧ (Exa Z h ca "[I")
abbrev RrmSl01 : Room := { frames := 1, cells := 1, slots := 1, locals := 30 }
theorem rmSl01 (l : Launch) (Z : State) (a0 : Array Value) (hw : ∀ d ∈ tables_1, d.before a0 Z = true) (ws : List Jvm.Cond) (ma : Addr) (k : ClassId) (x : Int32) (h0 : Heap) (n0 : Nat) (Z0 : n0 ≤ h0.size)  (p_Arv_ma : Arv Z h0 ma k .int (1 : Int32) [(.int x)] (.int (0 : Int32))) : Mf l Z Nm37 jdk_2097_method_102_code 10 (Option.some (Jvm.ClassFile.FieldType.array Jvm.ClassFile.FieldType.int)) ws RrmSl01 #[(.ref ma), (.int (0 : Int32))] h0 (QrmSl01 Z ma k x h0 n0) := by
 refine own_entry (plainFor_of_name pn_java_math_BigInteger) #[rv ma, iv 0, .unset, .unset, .unset, .unset, .unset, .unset, .unset, .unset] (fun _ => rfl) fun p e s m below meth c s₁ hx hby hml hown hnm hlk hre hZ X0 e0 => ?_
 have N0 := Fr.nil n0
 obtain ⟨d0, d1, d2, d3, d4, d5, d7, d8, d9, d10, d11, d13, d14, d16, d17, d20, d22, d23, d24, d26, d28, d29, d30, d32, d33, d35, d38, -, -, -, -, -, -, -, -, -, -, -, -, -, -, -, -, -, -, -, -, -, -, -, -, -, -, -, -, -, -, -, -, -, -, -, -, -, -, -, -, -, -, -, -, -, -, -, -, -, -, -, -, -, -, -, -, -, -, -, -, -, -, -, -, -, -, -, -, -, -, d152, d154, -⟩ := D_37 hby
 refine zI X0 hx d0 rfl 1 rfl ?_
 refine zK X0 hx d1 5 rfl 2 rfl ?_
 refine zq 3 [.int (((0 : Int32).toUInt32 >>> ((5 : Int32) &&& 31).toUInt32).toInt32)] (fun t k => XS.iushr X0.here hx rfl d2 rfl k) ?_
 have rw1 : (((0 : Int32).toUInt32 >>> ((5 : Int32) &&& 31).toUInt32).toInt32) = (0 : Int32) := (by decide)
 rw [rw1]
 refine zl 4 _ [] (fun t k => XS.istoreN X0.here hx rfl d3 rfl (l' := #[rv ma, iv 0, iv 0, .unset, .unset, .unset, .unset, .unset, .unset, .unset]) rfl k) ?_
 refine zI X0 hx d4 rfl 5 rfl ?_
 refine zq 7 [.int 31, .int 0] (fun t k => XS.bipush X0.here hx rfl d5 k) ?_
 refine zq 8 [.int ((0 : Int32) &&& (31 : Int32))] (fun t k => XS.iand X0.here hx rfl d7 rfl k) ?_
 have rw2 : ((0 : Int32) &&& (31 : Int32)) = (0 : Int32) := (by decide)
 rw [rw2]
 refine zl 9 _ [] (fun t k => XS.istoreN X0.here hx rfl d8 rfl (l' := #[rv ma, iv 0, iv 0, iv 0, .unset, .unset, .unset, .unset, .unset, .unset]) rfl k) ?_
 refine zR X0 hx d9 rfl rfl 10 rfl ?_
 refine zLn X0 hx hZ e0 p_Arv_ma d10 11 rfl ?_
 refine zl 13 _ [] (fun t k => XS.istore X0.here hx rfl d11 rfl (l' := #[rv ma, iv 0, iv 0, iv 0, iv 1, .unset, .unset, .unset, .unset, .unset]) rfl k) ?_
 refine zq 14 [.null] (fun t k => XS.aconstNull X0.here hx rfl d13 k) ?_
 refine zl 16 _ [] (fun t k => XS.astore X0.here hx rfl d14 rfl rfl (l' := #[rv ma, iv 0, iv 0, iv 0, iv 1, .val .null, .unset, .unset, .unset, .unset]) rfl k) ?_
 refine zI X0 hx d16 rfl 17 rfl ?_
 refine zN X0 hx d17 ((if0 _ _).trans (teq (by decide : ((0 : Int32) = (0 : Int32)))).2) 20 rfl ?_
 refine zI2 X0 hx d20 rfl 22 rfl ?_
 refine zI X0 hx d22 rfl 23 rfl ?_
 refine zq 24 [.int 1] (fun t k => XS.iadd X0.here hx rfl d23 rfl k) ?_
 obtain ⟨T4, h4, k4, X4, e4, E4, A4, Ex4, st4⟩ := newPE X0 hx hZ (tw hw 69 rfl) e0 (g := (mkF m 24 #[rv ma, iv 0, iv 0, iv 0, iv 1, .val .null, .unset, .unset, .unset, .unset] [.int 1])) rfl d24 rfl (by decide : ¬ ((1 : Int32) < (0 : Int32))) (cap := 1) (by decide) (by decide) (by decide) (by decide) (ad := "[I") (by decide)
 obtain ⟨b4, g4⟩ : ∃ z, z = h0.size := ⟨_, rfl⟩
 rw [← g4] at A4 Ex4 st4
 have X4 := own_reX X4 (rfl : _ = 1) (rfl : _ = 1)
 have V4 : Arv Z h4 b4 k4 .int (1 : Int32) [(.int (0 : Int32))] (.int (0 : Int32)) := (Arv.new A4 (by decide : ¬ ((1 : Int32) < (0 : Int32)))).pad (pad_rep [] (.int (0 : Int32)) 1)
 refine zt 26 [.ref b4] st4 ?_
 refine zl 28 _ [] (fun t k => XS.astore X4.here hx rfl d26 rfl rfl (l' := #[rv ma, iv 0, iv 0, iv 0, iv 1, rv b4, .unset, .unset, .unset, .unset]) rfl k) ?_
 refine zR X4 hx d28 rfl rfl 29 rfl ?_
 refine zK X4 hx d29 0 rfl 30 rfl ?_
 refine zR2 X4 hx d30 rfl rfl 32 rfl ?_
 refine zK X4 hx d32 0 rfl 33 rfl ?_
 refine zI2 X4 hx d33 rfl 35 rfl ?_
 have F5 := (p_Arv_ma.ext E4)
 obtain ⟨T6, h6, L6, X6, e6, N6, K6, V6, st6⟩ := cpA X4 hx hZ hown (tw hw 70 rfl) (tw hw 73 rfl) (tw hw 71 rfl) (tw hw 72 rfl) e4 F5 V4 (Or.inl ⟨rfl, rfl⟩) (sp := (0 : Int32)) (dp := (0 : Int32)) (nn := (1 : Int32)) (us := [(.int x)]) (by decide) (by decide) (by decide) (by decide) (by decide) rfl (Nat.le_of_ble_eq_true rfl) N0 (Nat.le_trans (Nat.le_trans Z0 (Nat.le_refl _)) (Nat.le_of_eq g4.symm)) (g := (mkF m 35 #[rv ma, iv 0, iv 0, iv 0, iv 1, rv b4, .unset, .unset, .unset, .unset] [.int 1, .int 0, .ref b4, .int 0, .ref ma])) rfl (by rw [hml]; rfl) rfl d35 (by decide) (W := 0) (by show 2 * 0 + _ ≤ _; exact Nat.le_of_eq rfl) (by decide)
 have X6 := own_reX X6 (rfl : _ = 1) (rfl : _ = 1)
 have V6 : Arv Z h6 b4 k4 .int (1 : Int32) [(.int x)] (.int (0 : Int32)) := V6
 refine zt 38 [] st6 ?_
 refine zG X6 hx d38 152 (by decide) ?_
 refine zR2 X6 hx d152 rfl rfl 154 rfl ?_
 have F7 := (Ex4.keep K6)
 exact own_finR X6 hx hlk hre rfl rfl d154 e6 ⟨b4, k4, rfl, N6, (((Keep.refl h0 []).ext E4).trans K6 (allS (Or.inr (Nat.le_trans (Nat.le_refl _) (Nat.le_of_eq g4.symm))) all0)), (Nat.le_trans (Nat.le_refl _) (Nat.le_of_eq g4.symm)), V6, F7⟩ (by decide) (by decide)
def QrmMb11 (Z : State) (ma : Addr) (k : ClassId) (p1 : Int32) (x : Int32) (h0 : Heap) (n0 : Nat) (v : Option Value) (h : Heap) (L : List Loc) : Prop := ∃ g : Addr, ∃ ca : Addr, ∃ kc : ClassId, v = some (.ref g) ∧ Fr n0 L ∧ Keep h0 h [] ∧ (h0.size ≤ g) ∧ (Exa Z h g "java/math/BigInteger") ∧ (Fld Z h g "java/math/BigInteger" "signum" "I" (.int p1)) ∧ (Fld Z h g "java/math/BigInteger" "mag" "[I" (.ref ca)) ∧ (Arv Z h ca kc .int (1 : Int32) [(.int x)] (.int (0 : Int32))) ∧ (Exa Z h ca "[I")
abbrev RrmMb11 : Room := { frames := 3, cells := 2, slots := 7, locals := 53 }
theorem rmMb11 (l : Launch) (Z : State) (a0 : Array Value) (hw : ∀ d ∈ tables_1, d.before a0 Z = true) (ws : List Jvm.Cond) (ma : Addr) (k : ClassId) (p1 : Int32) (x : Int32) (h0 : Heap) (n0 : Nat) (Z0 : n0 ≤ h0.size)  (p_Arv_ma : Arv Z h0 ma k .int (1 : Int32) [(.int x)] (.int (0 : Int32))) : Mf l Z Nm38 jdk_2097_method_43_code 13 (Option.some (Jvm.ClassFile.FieldType.object "java/math/BigInteger")) ws RrmMb11 #[(.ref ma), (.int (1 : Int32)), (.int p1)] h0 (QrmMb11 Z ma k p1 x h0 n0) := by
 refine own_entry (plainFor_of_name pn_java_math_BigInteger) #[rv ma, iv 1, iv p1, .unset, .unset, .unset, .unset, .unset, .unset, .unset, .unset, .unset, .unset] (fun _ => rfl) fun p e s m below meth c s₁ hx hby hml hown hnm hlk hre hZ X0 e0 => ?_
 have N0 := Fr.nil n0
 obtain ⟨d0, d1, d4, d5, d8, d11, d12, d13, d14, d17, d20, d21, d24, -⟩ := D_38 hby
 refine zI X0 hx d0 rfl 1 rfl ?_
 refine zCS X0 hx hZ hml hown (tw hw 54 rfl) (tw hw 55 rfl) (tw hw 56 rfl) (tw hw 57 rfl) (rmBc1 l Z a0 hw [] h0 n0 Z0) 0 (by decide) [] rfl (lenOf pd_0 rfl) rfl (Nat.le_of_eq rfl) e0 d1 4 rfl fun T1 L1 v1 X1 ⟨Lc1, hQ1, l1⟩ => ?_
 obtain ⟨rfl, Nq1, eh1⟩ := hQ1
 have N1 := own_frApp N0 Nq1 l1
 refine zx [.int 1] rfl ?_
 refine zK X1 hx d4 1 rfl 5 rfl ?_
 refine zCN X1 hx d5 (teq (by decide : ((1 : Int32) = (1 : Int32)))).2 8 rfl ?_
 obtain ⟨T2, h2, X2, e2, E2, A2, D2, -, st2⟩ := newO X1 hx hZ hown (tw hw 61 rfl) (tw hw 62 rfl) (tw hw 13 rfl) eh1 (g := (mkF m 8 #[rv ma, iv 1, iv p1, .unset, .unset, .unset, .unset, .unset, .unset, .unset, .unset, .unset, .unset] [])) rfl d8 (by decide) (by decide)
 obtain ⟨b2, g2⟩ : ∃ z, z = h0.size := ⟨_, rfl⟩
 rw [← g2] at A2 D2 st2
 have X2 := own_reX X2 (rfl : _ = 1) (rfl : _ = 6)
 refine zt 11 [.ref b2] st2 ?_
 refine zD X2 hx d11 rfl 12 rfl ?_
 refine zR X2 hx d12 rfl rfl 13 rfl ?_
 refine zI X2 hx d13 rfl 14 rfl ?_
 refine zCS X2 hx hZ hml hown (tw hw 63 rfl) (tw hw 64 rfl) (tw hw 56 rfl) (tw hw 65 rfl) (rmNtz1 l Z a0 hw [] h2 n0 (Nat.le_trans Z0 E2.1)) 3 (by decide) [.ref ma, .ref b2, .ref b2] rfl (lenOf pd_0 rfl) rfl (Nat.le_of_eq rfl) e2 d14 17 rfl fun T3 L3 v3 X3 ⟨Lc3, hQ3, l3⟩ => ?_
 obtain ⟨rfl, Nq3, eh3⟩ := hQ3
 have N3 := own_frApp N1 Nq3 l3
 refine zx [.int 0, .ref ma, .ref b2, .ref b2] rfl ?_
 have F4 := (p_Arv_ma.ext E2)
 refine zCS X3 hx hZ hml hown (tw hw 66 rfl) (tw hw 67 rfl) (tw hw 13 rfl) (tw hw 68 rfl) (rmSl01 l Z a0 hw [] ma k x h2 n0 (Nat.le_trans Z0 E2.1) F4) 2 (by decide) [.ref b2, .ref b2] rfl (lenOf pd_7 rfl) rfl (Nat.le_of_eq rfl) eh3 d17 20 rfl fun T5 L5 v5 X5 ⟨Lc5, hQ5, l5⟩ => ?_
 have X5 := own_reX X5 (rfl : _ = 2) (rfl : _ = 7)
 obtain ⟨ca_5, kc_5, rfl, Nq5, K5, f5_0, f5_1, f5_2⟩ := hQ5
 have N5 := own_frApp N3 Nq5 l5
 refine zx [.ref ca_5, .ref b2, .ref b2] rfl ?_
 refine zI X5 hx d20 rfl 21 rfl ?_
 have F6 := (A2.keep K5)
 have F7 := ((D2 (Or.inr (tw hw 48 rfl)) pf_0).keep K5 nin0)
 have F8 := ((D2 (Or.inr (tw hw 50 rfl)) pf_1).keep K5 nin0)
 refine zCI X5 hx hZ hml rfl rfl hown (tw hw 74 rfl) (tw hw 75 rfl) (tw hw 13 rfl) (tw hw 77 rfl) (rmBiA1 l Z a0 hw [] b2 ca_5 kc_5 p1 x T5.heap n0 (Nat.le_trans Z0 (Nat.le_trans E2.1 K5.1)) F6 F7 F8 (Nat.le_trans (Nat.le_trans Z0 (Nat.le_refl _)) (Nat.le_of_eq g2.symm)) f5_1 (Ne.symm (Nat.ne_of_lt (Nat.lt_of_lt_of_le A2.lt f5_0)))) 1 (by decide) b2 [.ref b2] rfl rfl (lenOf pd_9 rfl) rfl (Nat.le_of_eq rfl) rfl d21 24 rfl fun T9 L9 v9 X9 ⟨Lc9, hQ9, l9⟩ => ?_
 obtain ⟨rfl, Nq9, K9, f9_0, f9_1, f9_2⟩ := hQ9
 have N9 := own_frApp N5 Nq9 l9
 refine zx [.ref b2] rfl ?_
 have K10 : Keep h0 T9.heap [] := ((((Keep.refl h0 []).ext E2).trans K5 all0).trans K9 (allS (Or.inr (Nat.le_trans (Nat.le_refl _) (Nat.le_of_eq g2.symm))) all0))
 have F11 := (f5_1.keep K9 (ninS (Ne.symm (Nat.ne_of_lt (Nat.lt_of_lt_of_le A2.lt f5_0))) nin0))
 have F12 := (f5_2.keep K9)
 exact own_finR X9 hx hlk hre rfl rfl d24 rfl ⟨b2, ca_5, kc_5, rfl, N9, ((Keep.refl h0 []).trans K10 all0), (Nat.le_trans (Nat.le_refl _) (Nat.le_of_eq g2.symm)), f9_0, f9_1, f9_2, F11, F12⟩ (by decide) (by decide)
def QrmSl02 (Z : State) (ma : Addr) (k : ClassId) (x : Int32) (y : Int32) (h0 : Heap) (n0 : Nat) (v : Option Value) (h : Heap) (L : List Loc) : Prop := ∃ ca : Addr, ∃ kc : ClassId, v = some (.ref ca) ∧ Fr n0 L ∧ Keep h0 h [] ∧ (h0.size ≤ ca) ∧ (Arv Z h ca kc .int (2 : Int32) [(.int x), (.int y)] (.int (0 : Int32))) ∧ (Exa Z h ca "[I")
abbrev RrmSl02 : Room := { frames := 1, cells := 1, slots := 2, locals := 30 }
theorem rmSl02 (l : Launch) (Z : State) (a0 : Array Value) (hw : ∀ d ∈ tables_1, d.before a0 Z = true) (ws : List Jvm.Cond) (ma : Addr) (k : ClassId) (x : Int32) (y : Int32) (h0 : Heap) (n0 : Nat) (Z0 : n0 ≤ h0.size)  (p_Arv_ma : Arv Z h0 ma k .int (2 : Int32) [(.int x), (.int y)] (.int (0 : Int32))) : Mf l Z Nm37 jdk_2097_method_102_code 10 (Option.some (Jvm.ClassFile.FieldType.array Jvm.ClassFile.FieldType.int)) ws RrmSl02 #[(.ref ma), (.int (0 : Int32))] h0 (QrmSl02 Z ma k x y h0 n0) := by
 refine own_entry (plainFor_of_name pn_java_math_BigInteger) #[rv ma, iv 0, .unset, .unset, .unset, .unset, .unset, .unset, .unset, .unset] (fun _ => rfl) fun p e s m below meth c s₁ hx hby hml hown hnm hlk hre hZ X0 e0 => ?_
 have N0 := Fr.nil n0
 obtain ⟨d0, d1, d2, d3, d4, d5, d7, d8, d9, d10, d11, d13, d14, d16, d17, d20, d22, d23, d24, d26, d28, d29, d30, d32, d33, d35, d38, -, -, -, -, -, -, -, -, -, -, -, -, -, -, -, -, -, -, -, -, -, -, -, -, -, -, -, -, -, -, -, -, -, -, -, -, -, -, -, -, -, -, -, -, -, -, -, -, -, -, -, -, -, -, -, -, -, -, -, -, -, -, -, -, -, -, -, -, -, -, d152, d154, -⟩ := D_37 hby
 refine zI X0 hx d0 rfl 1 rfl ?_
 refine zK X0 hx d1 5 rfl 2 rfl ?_
 refine zq 3 [.int (((0 : Int32).toUInt32 >>> ((5 : Int32) &&& 31).toUInt32).toInt32)] (fun t k => XS.iushr X0.here hx rfl d2 rfl k) ?_
 have rw1 : (((0 : Int32).toUInt32 >>> ((5 : Int32) &&& 31).toUInt32).toInt32) = (0 : Int32) := (by decide)
 rw [rw1]
 refine zl 4 _ [] (fun t k => XS.istoreN X0.here hx rfl d3 rfl (l' := #[rv ma, iv 0, iv 0, .unset, .unset, .unset, .unset, .unset, .unset, .unset]) rfl k) ?_
 refine zI X0 hx d4 rfl 5 rfl ?_
 refine zq 7 [.int 31, .int 0] (fun t k => XS.bipush X0.here hx rfl d5 k) ?_
 refine zq 8 [.int ((0 : Int32) &&& (31 : Int32))] (fun t k => XS.iand X0.here hx rfl d7 rfl k) ?_
 have rw2 : ((0 : Int32) &&& (31 : Int32)) = (0 : Int32) := (by decide)
 rw [rw2]
 refine zl 9 _ [] (fun t k => XS.istoreN X0.here hx rfl d8 rfl (l' := #[rv ma, iv 0, iv 0, iv 0, .unset, .unset, .unset, .unset, .unset, .unset]) rfl k) ?_
 refine zR X0 hx d9 rfl rfl 10 rfl ?_
 refine zLn X0 hx hZ e0 p_Arv_ma d10 11 rfl ?_
 refine zl 13 _ [] (fun t k => XS.istore X0.here hx rfl d11 rfl (l' := #[rv ma, iv 0, iv 0, iv 0, iv 2, .unset, .unset, .unset, .unset, .unset]) rfl k) ?_
 refine zq 14 [.null] (fun t k => XS.aconstNull X0.here hx rfl d13 k) ?_
 refine zl 16 _ [] (fun t k => XS.astore X0.here hx rfl d14 rfl rfl (l' := #[rv ma, iv 0, iv 0, iv 0, iv 2, .val .null, .unset, .unset, .unset, .unset]) rfl k) ?_
 refine zI X0 hx d16 rfl 17 rfl ?_
 refine zN X0 hx d17 ((if0 _ _).trans (teq (by decide : ((0 : Int32) = (0 : Int32)))).2) 20 rfl ?_
 refine zI2 X0 hx d20 rfl 22 rfl ?_
 refine zI X0 hx d22 rfl 23 rfl ?_
 refine zq 24 [.int 2] (fun t k => XS.iadd X0.here hx rfl d23 rfl k) ?_
 obtain ⟨T4, h4, k4, X4, e4, E4, A4, Ex4, st4⟩ := newPE X0 hx hZ (tw hw 69 rfl) e0 (g := (mkF m 24 #[rv ma, iv 0, iv 0, iv 0, iv 2, .val .null, .unset, .unset, .unset, .unset] [.int 2])) rfl d24 rfl (by decide : ¬ ((2 : Int32) < (0 : Int32))) (cap := 2) (by decide) (by decide) (by decide) (by decide) (ad := "[I") (by decide)
 obtain ⟨b4, g4⟩ : ∃ z, z = h0.size := ⟨_, rfl⟩
 rw [← g4] at A4 Ex4 st4
 have X4 := own_reX X4 (rfl : _ = 1) (rfl : _ = 2)
 have V4 : Arv Z h4 b4 k4 .int (2 : Int32) [(.int (0 : Int32)), (.int (0 : Int32))] (.int (0 : Int32)) := (Arv.new A4 (by decide : ¬ ((2 : Int32) < (0 : Int32)))).pad (pad_rep [] (.int (0 : Int32)) 2)
 refine zt 26 [.ref b4] st4 ?_
 refine zl 28 _ [] (fun t k => XS.astore X4.here hx rfl d26 rfl rfl (l' := #[rv ma, iv 0, iv 0, iv 0, iv 2, rv b4, .unset, .unset, .unset, .unset]) rfl k) ?_
 refine zR X4 hx d28 rfl rfl 29 rfl ?_
 refine zK X4 hx d29 0 rfl 30 rfl ?_
 refine zR2 X4 hx d30 rfl rfl 32 rfl ?_
 refine zK X4 hx d32 0 rfl 33 rfl ?_
 refine zI2 X4 hx d33 rfl 35 rfl ?_
 have F5 := (p_Arv_ma.ext E4)
 obtain ⟨T6, h6, L6, X6, e6, N6, K6, V6, st6⟩ := cpA X4 hx hZ hown (tw hw 70 rfl) (tw hw 73 rfl) (tw hw 71 rfl) (tw hw 72 rfl) e4 F5 V4 (Or.inl ⟨rfl, rfl⟩) (sp := (0 : Int32)) (dp := (0 : Int32)) (nn := (2 : Int32)) (us := [(.int x), (.int y)]) (by decide) (by decide) (by decide) (by decide) (by decide) rfl (Nat.le_of_ble_eq_true rfl) N0 (Nat.le_trans (Nat.le_trans Z0 (Nat.le_refl _)) (Nat.le_of_eq g4.symm)) (g := (mkF m 35 #[rv ma, iv 0, iv 0, iv 0, iv 2, rv b4, .unset, .unset, .unset, .unset] [.int 2, .int 0, .ref b4, .int 0, .ref ma])) rfl (by rw [hml]; rfl) rfl d35 (by decide) (W := 0) (by show 2 * 0 + _ ≤ _; exact Nat.le_of_eq rfl) (by decide)
 have X6 := own_reX X6 (rfl : _ = 1) (rfl : _ = 2)
 have V6 : Arv Z h6 b4 k4 .int (2 : Int32) [(.int x), (.int y)] (.int (0 : Int32)) := V6
 refine zt 38 [] st6 ?_
 refine zG X6 hx d38 152 (by decide) ?_
 refine zR2 X6 hx d152 rfl rfl 154 rfl ?_
 have F7 := (Ex4.keep K6)
 exact own_finR X6 hx hlk hre rfl rfl d154 e6 ⟨b4, k4, rfl, N6, (((Keep.refl h0 []).ext E4).trans K6 (allS (Or.inr (Nat.le_trans (Nat.le_refl _) (Nat.le_of_eq g4.symm))) all0)), (Nat.le_trans (Nat.le_refl _) (Nat.le_of_eq g4.symm)), V6, F7⟩ (by decide) (by decide)
def QrmMb12 (Z : State) (ma : Addr) (k : ClassId) (p1 : Int32) (x : Int32) (y : Int32) (h0 : Heap) (n0 : Nat) (v : Option Value) (h : Heap) (L : List Loc) : Prop := ∃ g : Addr, ∃ ca : Addr, ∃ kc : ClassId, v = some (.ref g) ∧ Fr n0 L ∧ Keep h0 h [] ∧ (h0.size ≤ g) ∧ (Exa Z h g "java/math/BigInteger") ∧ (Fld Z h g "java/math/BigInteger" "signum" "I" (.int p1)) ∧ (Fld Z h g "java/math/BigInteger" "mag" "[I" (.ref ca)) ∧ (Arv Z h ca kc .int (2 : Int32) [(.int x), (.int y)] (.int (0 : Int32))) ∧ (Exa Z h ca "[I")
abbrev RrmMb12 : Room := { frames := 3, cells := 2, slots := 8, locals := 53 }
theorem rmMb12 (l : Launch) (Z : State) (a0 : Array Value) (hw : ∀ d ∈ tables_1, d.before a0 Z = true) (ws : List Jvm.Cond) (ma : Addr) (k : ClassId) (p1 : Int32) (x : Int32) (y : Int32) (h0 : Heap) (n0 : Nat) (Z0 : n0 ≤ h0.size)  (p_Arv_ma : Arv Z h0 ma k .int (2 : Int32) [(.int x), (.int y)] (.int (0 : Int32))) : Mf l Z Nm38 jdk_2097_method_43_code 13 (Option.some (Jvm.ClassFile.FieldType.object "java/math/BigInteger")) ws RrmMb12 #[(.ref ma), (.int (1 : Int32)), (.int p1)] h0 (QrmMb12 Z ma k p1 x y h0 n0) := by
 refine own_entry (plainFor_of_name pn_java_math_BigInteger) #[rv ma, iv 1, iv p1, .unset, .unset, .unset, .unset, .unset, .unset, .unset, .unset, .unset, .unset] (fun _ => rfl) fun p e s m below meth c s₁ hx hby hml hown hnm hlk hre hZ X0 e0 => ?_
 have N0 := Fr.nil n0
 obtain ⟨d0, d1, d4, d5, d8, d11, d12, d13, d14, d17, d20, d21, d24, -⟩ := D_38 hby
 refine zI X0 hx d0 rfl 1 rfl ?_
 refine zCS X0 hx hZ hml hown (tw hw 54 rfl) (tw hw 55 rfl) (tw hw 56 rfl) (tw hw 57 rfl) (rmBc1 l Z a0 hw [] h0 n0 Z0) 0 (by decide) [] rfl (lenOf pd_0 rfl) rfl (Nat.le_of_eq rfl) e0 d1 4 rfl fun T1 L1 v1 X1 ⟨Lc1, hQ1, l1⟩ => ?_
 obtain ⟨rfl, Nq1, eh1⟩ := hQ1
 have N1 := own_frApp N0 Nq1 l1
 refine zx [.int 1] rfl ?_
 refine zK X1 hx d4 1 rfl 5 rfl ?_
 refine zCN X1 hx d5 (teq (by decide : ((1 : Int32) = (1 : Int32)))).2 8 rfl ?_
 obtain ⟨T2, h2, X2, e2, E2, A2, D2, -, st2⟩ := newO X1 hx hZ hown (tw hw 61 rfl) (tw hw 62 rfl) (tw hw 13 rfl) eh1 (g := (mkF m 8 #[rv ma, iv 1, iv p1, .unset, .unset, .unset, .unset, .unset, .unset, .unset, .unset, .unset, .unset] [])) rfl d8 (by decide) (by decide)
 obtain ⟨b2, g2⟩ : ∃ z, z = h0.size := ⟨_, rfl⟩
 rw [← g2] at A2 D2 st2
 have X2 := own_reX X2 (rfl : _ = 1) (rfl : _ = 6)
 refine zt 11 [.ref b2] st2 ?_
 refine zD X2 hx d11 rfl 12 rfl ?_
 refine zR X2 hx d12 rfl rfl 13 rfl ?_
 refine zI X2 hx d13 rfl 14 rfl ?_
 refine zCS X2 hx hZ hml hown (tw hw 63 rfl) (tw hw 64 rfl) (tw hw 56 rfl) (tw hw 65 rfl) (rmNtz1 l Z a0 hw [] h2 n0 (Nat.le_trans Z0 E2.1)) 3 (by decide) [.ref ma, .ref b2, .ref b2] rfl (lenOf pd_0 rfl) rfl (Nat.le_of_eq rfl) e2 d14 17 rfl fun T3 L3 v3 X3 ⟨Lc3, hQ3, l3⟩ => ?_
 obtain ⟨rfl, Nq3, eh3⟩ := hQ3
 have N3 := own_frApp N1 Nq3 l3
 refine zx [.int 0, .ref ma, .ref b2, .ref b2] rfl ?_
 have F4 := (p_Arv_ma.ext E2)
 refine zCS X3 hx hZ hml hown (tw hw 66 rfl) (tw hw 67 rfl) (tw hw 13 rfl) (tw hw 68 rfl) (rmSl02 l Z a0 hw [] ma k x y h2 n0 (Nat.le_trans Z0 E2.1) F4) 2 (by decide) [.ref b2, .ref b2] rfl (lenOf pd_7 rfl) rfl (Nat.le_of_eq rfl) eh3 d17 20 rfl fun T5 L5 v5 X5 ⟨Lc5, hQ5, l5⟩ => ?_
 have X5 := own_reX X5 (rfl : _ = 2) (rfl : _ = 8)
 obtain ⟨ca_5, kc_5, rfl, Nq5, K5, f5_0, f5_1, f5_2⟩ := hQ5
 have N5 := own_frApp N3 Nq5 l5
 refine zx [.ref ca_5, .ref b2, .ref b2] rfl ?_
 refine zI X5 hx d20 rfl 21 rfl ?_
 have F6 := (A2.keep K5)
 have F7 := ((D2 (Or.inr (tw hw 48 rfl)) pf_0).keep K5 nin0)
 have F8 := ((D2 (Or.inr (tw hw 50 rfl)) pf_1).keep K5 nin0)
 refine zCI X5 hx hZ hml rfl rfl hown (tw hw 74 rfl) (tw hw 75 rfl) (tw hw 13 rfl) (tw hw 77 rfl) (rmBiA2 l Z a0 hw [] b2 ca_5 kc_5 p1 x y T5.heap n0 (Nat.le_trans Z0 (Nat.le_trans E2.1 K5.1)) F6 F7 F8 (Nat.le_trans (Nat.le_trans Z0 (Nat.le_refl _)) (Nat.le_of_eq g2.symm)) f5_1 (Ne.symm (Nat.ne_of_lt (Nat.lt_of_lt_of_le A2.lt f5_0)))) 1 (by decide) b2 [.ref b2] rfl rfl (lenOf pd_9 rfl) rfl (Nat.le_of_eq rfl) rfl d21 24 rfl fun T9 L9 v9 X9 ⟨Lc9, hQ9, l9⟩ => ?_
 obtain ⟨rfl, Nq9, K9, f9_0, f9_1, f9_2⟩ := hQ9
 have N9 := own_frApp N5 Nq9 l9
 refine zx [.ref b2] rfl ?_
 have K10 : Keep h0 T9.heap [] := ((((Keep.refl h0 []).ext E2).trans K5 all0).trans K9 (allS (Or.inr (Nat.le_trans (Nat.le_refl _) (Nat.le_of_eq g2.symm))) all0))
 have F11 := (f5_1.keep K9 (ninS (Ne.symm (Nat.ne_of_lt (Nat.lt_of_lt_of_le A2.lt f5_0))) nin0))
 have F12 := (f5_2.keep K9)
 exact own_finR X9 hx hlk hre rfl rfl d24 rfl ⟨b2, ca_5, kc_5, rfl, N9, ((Keep.refl h0 []).trans K10 all0), (Nat.le_trans (Nat.le_refl _) (Nat.le_of_eq g2.symm)), f9_0, f9_1, f9_2, F11, F12⟩ (by decide) (by decide)
def QrmMul4 (Z : State) (a : Addr) (b : Addr) (vv : Int) (h0 : Heap) (n0 : Nat) (v : Option Value) (h : Heap) (L : List Loc) : Prop := ∃ g : Addr, v = some (.ref g) ∧ Fr n0 L ∧ Keep h0 h [] ∧ (BI Z h g vv)
abbrev RrmMul4 : Room := { frames := 4, cells := 2, slots := 8, locals := 77 }
theorem rmMul4 (l : Launch) (Z : State) (a0 : Array Value) (hw : ∀ d ∈ tables_1, d.before a0 Z = true) (ws : List Jvm.Cond) (a : Addr) (b : Addr) (vv : Int) (h0 : Heap) (n0 : Nat) (Z0 : n0 ≤ h0.size) (zA oA pA nA : Addr) (kP kN : ClassId) (vP vN : List Value) (G0 : Gl Z zA oA pA nA kP kN vP vN) (X00 : Old Z n0 h0) (p_BI_a : BI Z h0 a vv) (p_BI_b : BI Z h0 b (1 : Int)) : Mf l Z Nm39 jdk_2097_method_42_code 9 (Option.some (Jvm.ClassFile.FieldType.object "java/math/BigInteger")) ws RrmMul4 #[(.ref a), (.ref b), (.int (0 : Int32)), (.int (0 : Int32)), (.int (0 : Int32))] h0 (QrmMul4 Z a b vv h0 n0) := by
 refine own_entry (plainFor_of_name pn_java_math_BigInteger) #[rv a, rv b, iv 0, iv 0, iv 0, .unset, .unset, .unset, .unset] (fun _ => rfl) fun p e s m below meth c s₁ hx hby hml hown hnm hlk hre hZ X0 e0 => ?_
 have N0 := Fr.nil n0
 obtain ⟨d0, d1, d4, d7, d8, d11, d14, d17, d18, d19, d22, d23, d25, d26, d27, d30, d32, d34, d46, d47, d50, d51, d53, d55, d57, d67, d68, d71, d72, d75, d78, d79, d82, d83, d85, d86, d89, d90, d91, d94, d95, d98, d99, d102, d103, d104, d106, d109, -⟩ := D_39 hby
 obtain ⟨SZ, BZ, SO, BO, SP, AP, hcP, SN, AN, hcN⟩ := id G0
 obtain ⟨m1, km1, Eb1, Fm1, Em1, Fs1, Ar1⟩ := BI.one p_BI_b
 rcases id p_BI_a with ⟨m2, km2, Eb2, Fm2, Em2, (⟨Fs2, Ar2, hv2⟩ | ⟨w2, hn2, Ar2, (⟨Fs2, hv2⟩ | ⟨Fs2, hv2⟩)⟩ | ⟨w2, u2, hn2, Ar2, (⟨Fs2, hv2⟩ | ⟨Fs2, hv2⟩)⟩)⟩
 ·refine zR X0 hx d0 rfl rfl 1 rfl ?_
  refine zP X0 hx hZ hown (tw hw 47 rfl) e0 Fs1 d1 4 rfl fun T3 X3 e3 => ?_
  refine zN X3 hx d4 ((if0 _ _).trans (feq (by decide : ¬ ((1 : Int32) = (0 : Int32)))).1) 7 rfl ?_
  refine zR X3 hx d7 rfl rfl 8 rfl ?_
  refine zP X3 hx hZ hown (tw hw 47 rfl) e3 Fs2 d8 11 rfl fun T4 X4 e4 => ?_
  refine zN X4 hx d11 ((if0 _ _).trans (teq (by decide : ((0 : Int32) = (0 : Int32)))).2) 14 rfl ?_
  obtain ⟨T5, X5, e5, st5⟩ := getS (host := "") X4 hx hZ hown (tw hw 15 rfl) Via.refl e4 (SZ.ext X00.2) (g := (mkF m 14 #[rv a, rv b, iv 0, iv 0, iv 0, .unset, .unset, .unset, .unset] [])) rfl d14
  refine zt 17 [.ref zA] st5 ?_
  have B6 : BI Z h0 zA vv := BI.cast ((hv2).symm : (0 : Int) = vv) (BZ.ext X00.2)
  exact own_finR X5 hx hlk hre rfl rfl d17 e5 ⟨zA, rfl, N0, (Keep.refl h0 []), B6⟩ (by decide) (by decide)
 ·refine zR X0 hx d0 rfl rfl 1 rfl ?_
  refine zP X0 hx hZ hown (tw hw 47 rfl) e0 Fs1 d1 4 rfl fun T7 X7 e7 => ?_
  refine zN X7 hx d4 ((if0 _ _).trans (feq (by decide : ¬ ((1 : Int32) = (0 : Int32)))).1) 7 rfl ?_
  refine zR X7 hx d7 rfl rfl 8 rfl ?_
  refine zP X7 hx hZ hown (tw hw 47 rfl) e7 Fs2 d8 11 rfl fun T8 X8 e8 => ?_
  refine zY X8 hx d11 ((if0 _ _).trans (feq (by decide : ¬ ((1 : Int32) = (0 : Int32)))).2) 18 (by decide) ?_
  refine zR X8 hx d18 rfl rfl 19 rfl ?_
  refine zP X8 hx hZ hown (tw hw 49 rfl) e8 Fm2 d19 22 rfl fun T9 X9 e9 => ?_
  refine zLn X9 hx hZ e9 Ar2 d22 23 rfl ?_
  refine zl 25 _ [] (fun t k => XS.istore X9.here hx rfl d23 rfl (l' := #[rv a, rv b, iv 0, iv 0, iv 0, iv 1, .unset, .unset, .unset]) rfl k) ?_
  refine zR X9 hx d25 rfl rfl 26 rfl ?_
  refine zR X9 hx d26 rfl rfl 27 rfl ?_
  have J11 : Ends p.tables e below (fun o U' => ∃ v L, o = .returned v ∧ QrmMul4 Z a b vv h0 n0 v U'.heap L ∧ FrameEnd s o U' L RrmMul4.cells RrmMul4.slots) (T9.setTop (mkF m 46 #[rv a, rv b, iv 0, iv 0, iv 0, iv 1, .unset, .unset, .unset] [])) := by
   refine zR X9 hx d46 rfl rfl 47 rfl ?_
   refine zP X9 hx hZ hown (tw hw 49 rfl) e9 Fm1 d47 50 rfl fun T12 X12 e12 => ?_
   refine zLn X12 hx hZ e12 Ar1 d50 51 rfl ?_
   refine zl 53 _ [] (fun t k => XS.istore X12.here hx rfl d51 rfl (l' := #[rv a, rv b, iv 0, iv 0, iv 0, iv 1, iv 1, .unset, .unset]) rfl k) ?_
   refine zI2 X12 hx d53 rfl 55 rfl ?_
   refine zq 57 [.int 80, .int 1] (fun t k => XS.bipush X12.here hx rfl d55 k) ?_
   refine zCY X12 hx d57 (tlt (by decide : ((1 : Int32) < (80 : Int32)))).1 67 (by decide) ?_
   refine zR X12 hx d67 rfl rfl 68 rfl ?_
   refine zP X12 hx hZ hown (tw hw 47 rfl) e12 Fs2 d68 71 rfl fun T14 X14 e14 => ?_
   refine zR X14 hx d71 rfl rfl 72 rfl ?_
   refine zP X14 hx hZ hown (tw hw 47 rfl) e14 Fs1 d72 75 rfl fun T15 X15 e15 => ?_
   refine zCN X15 hx d75 (teq (by decide : ((1 : Int32) = (1 : Int32)))).2 78 rfl ?_
   refine zK X15 hx d78 1 rfl 79 rfl ?_
   refine zG X15 hx d79 83 (by decide) ?_
   refine zl 85 _ [] (fun t k => XS.istore X15.here hx rfl d83 rfl (l' := #[rv a, rv b, iv 0, iv 0, iv 0, iv 1, iv 1, iv 1, .unset]) rfl k) ?_
   refine zR X15 hx d85 rfl rfl 86 rfl ?_
   refine zP X15 hx hZ hown (tw hw 49 rfl) e15 Fm1 d86 89 rfl fun T16 X16 e16 => ?_
   refine zLn X16 hx hZ e16 Ar1 d89 90 rfl ?_
   refine zK X16 hx d90 1 rfl 91 rfl ?_
   refine zCN X16 hx d91 (teq (by decide : ((1 : Int32) = (1 : Int32)))).2 94 rfl ?_
   refine zR X16 hx d94 rfl rfl 95 rfl ?_
   refine zP X16 hx hZ hown (tw hw 49 rfl) e16 Fm2 d95 98 rfl fun T18 X18 e18 => ?_
   refine zR X18 hx d98 rfl rfl 99 rfl ?_
   refine zP X18 hx hZ hown (tw hw 49 rfl) e18 Fm1 d99 102 rfl fun T19 X19 e19 => ?_
   refine zK X19 hx d102 0 rfl 103 rfl ?_
   refine zIa X19 hx hZ e19 Ar1 (by decide) rfl d103 104 rfl ?_
   refine zI2 X19 hx d104 rfl 106 rfl ?_
   refine zCS X19 hx hZ hml hown (tw hw 51 rfl) (tw hw 52 rfl) (tw hw 13 rfl) (tw hw 53 rfl) (rmMb11 l Z a0 hw [] m2 km2 (1 : Int32) w2 h0 n0 Z0 Ar2) 0 (by decide) [] rfl (lenOf pd_21 rfl) rfl (Nat.le_of_eq rfl) e19 d106 109 rfl fun T21 L21 v21 X21 ⟨Lc21, hQ21, l21⟩ => ?_
   have X21 := own_reX X21 (rfl : _ = 2) (rfl : _ = 7)
   obtain ⟨g_21, ca_21, kc_21, rfl, Nq21, K21, f21_0, f21_1, f21_2, f21_3, f21_4, f21_5⟩ := hQ21
   have N21 := own_frApp N0 Nq21 l21
   refine zx [.ref g_21] rfl ?_
   have B22 : BI Z T21.heap g_21 vv := ⟨ca_21, _, f21_1, f21_3, f21_5, Or.inr (Or.inl ⟨w2, hn2, f21_4, Or.inl ⟨f21_2, hv2⟩⟩)⟩
   exact own_finR X21 hx hlk hre rfl rfl d109 rfl ⟨g_21, rfl, N21, ((Keep.refl h0 []).trans K21 all0), B22⟩ (by decide) (by decide)
  by_cases c23 : ((.ref b) : Value) = (.ref a)
  ·refine zq 30 [] (fun t k => acmp X9 hx rfl (x := (.ref b)) (y := (.ref a)) rfl rfl (pc0 := 27) (pc' := 30) (same := true) rfl d27 rfl (decide_eq_true c23) (by decide) (by decide) k) ?_
   refine zI2 X9 hx d30 rfl 32 rfl ?_
   refine zq 34 [.int 20, .int 1] (fun t k => XS.bipush X9.here hx rfl d32 k) ?_
   refine zCY X9 hx d34 (flt (by decide : ¬ ((20 : Int32) < (1 : Int32)))).2.2.2 46 (by decide) ?_
   exact J11 
  ·refine zq 46 [] (fun t k => acmp X9 hx rfl (x := (.ref b)) (y := (.ref a)) rfl rfl (pc0 := 27) (pc' := 46) (same := false) rfl d27 rfl (decide_eq_false c23) (by decide) (by decide) k) ?_
   exact J11 
 ·refine zR X0 hx d0 rfl rfl 1 rfl ?_
  refine zP X0 hx hZ hown (tw hw 47 rfl) e0 Fs1 d1 4 rfl fun T24 X24 e24 => ?_
  refine zN X24 hx d4 ((if0 _ _).trans (feq (by decide : ¬ ((1 : Int32) = (0 : Int32)))).1) 7 rfl ?_
  refine zR X24 hx d7 rfl rfl 8 rfl ?_
  refine zP X24 hx hZ hown (tw hw 47 rfl) e24 Fs2 d8 11 rfl fun T25 X25 e25 => ?_
  refine zY X25 hx d11 ((if0 _ _).trans (feq (by decide : ¬ ((-1 : Int32) = (0 : Int32)))).2) 18 (by decide) ?_
  refine zR X25 hx d18 rfl rfl 19 rfl ?_
  refine zP X25 hx hZ hown (tw hw 49 rfl) e25 Fm2 d19 22 rfl fun T26 X26 e26 => ?_
  refine zLn X26 hx hZ e26 Ar2 d22 23 rfl ?_
  refine zl 25 _ [] (fun t k => XS.istore X26.here hx rfl d23 rfl (l' := #[rv a, rv b, iv 0, iv 0, iv 0, iv 1, .unset, .unset, .unset]) rfl k) ?_
  refine zR X26 hx d25 rfl rfl 26 rfl ?_
  refine zR X26 hx d26 rfl rfl 27 rfl ?_
  have J28 : Ends p.tables e below (fun o U' => ∃ v L, o = .returned v ∧ QrmMul4 Z a b vv h0 n0 v U'.heap L ∧ FrameEnd s o U' L RrmMul4.cells RrmMul4.slots) (T26.setTop (mkF m 46 #[rv a, rv b, iv 0, iv 0, iv 0, iv 1, .unset, .unset, .unset] [])) := by
   refine zR X26 hx d46 rfl rfl 47 rfl ?_
   refine zP X26 hx hZ hown (tw hw 49 rfl) e26 Fm1 d47 50 rfl fun T29 X29 e29 => ?_
   refine zLn X29 hx hZ e29 Ar1 d50 51 rfl ?_
   refine zl 53 _ [] (fun t k => XS.istore X29.here hx rfl d51 rfl (l' := #[rv a, rv b, iv 0, iv 0, iv 0, iv 1, iv 1, .unset, .unset]) rfl k) ?_
   refine zI2 X29 hx d53 rfl 55 rfl ?_
   refine zq 57 [.int 80, .int 1] (fun t k => XS.bipush X29.here hx rfl d55 k) ?_
   refine zCY X29 hx d57 (tlt (by decide : ((1 : Int32) < (80 : Int32)))).1 67 (by decide) ?_
   refine zR X29 hx d67 rfl rfl 68 rfl ?_
   refine zP X29 hx hZ hown (tw hw 47 rfl) e29 Fs2 d68 71 rfl fun T31 X31 e31 => ?_
   refine zR X31 hx d71 rfl rfl 72 rfl ?_
   refine zP X31 hx hZ hown (tw hw 47 rfl) e31 Fs1 d72 75 rfl fun T32 X32 e32 => ?_
   refine zCY X32 hx d75 (feq (by decide : ¬ ((-1 : Int32) = (1 : Int32)))).2 82 (by decide) ?_
   refine zK X32 hx d82 (-1 : Int32) rfl 83 rfl ?_
   refine zl 85 _ [] (fun t k => XS.istore X32.here hx rfl d83 rfl (l' := #[rv a, rv b, iv 0, iv 0, iv 0, iv 1, iv 1, iv (-1), .unset]) rfl k) ?_
   refine zR X32 hx d85 rfl rfl 86 rfl ?_
   refine zP X32 hx hZ hown (tw hw 49 rfl) e32 Fm1 d86 89 rfl fun T33 X33 e33 => ?_
   refine zLn X33 hx hZ e33 Ar1 d89 90 rfl ?_
   refine zK X33 hx d90 1 rfl 91 rfl ?_
   refine zCN X33 hx d91 (teq (by decide : ((1 : Int32) = (1 : Int32)))).2 94 rfl ?_
   refine zR X33 hx d94 rfl rfl 95 rfl ?_
   refine zP X33 hx hZ hown (tw hw 49 rfl) e33 Fm2 d95 98 rfl fun T35 X35 e35 => ?_
   refine zR X35 hx d98 rfl rfl 99 rfl ?_
   refine zP X35 hx hZ hown (tw hw 49 rfl) e35 Fm1 d99 102 rfl fun T36 X36 e36 => ?_
   refine zK X36 hx d102 0 rfl 103 rfl ?_
   refine zIa X36 hx hZ e36 Ar1 (by decide) rfl d103 104 rfl ?_
   refine zI2 X36 hx d104 rfl 106 rfl ?_
   refine zCS X36 hx hZ hml hown (tw hw 51 rfl) (tw hw 52 rfl) (tw hw 13 rfl) (tw hw 53 rfl) (rmMb11 l Z a0 hw [] m2 km2 (-1 : Int32) w2 h0 n0 Z0 Ar2) 0 (by decide) [] rfl (lenOf pd_21 rfl) rfl (Nat.le_of_eq rfl) e36 d106 109 rfl fun T38 L38 v38 X38 ⟨Lc38, hQ38, l38⟩ => ?_
   have X38 := own_reX X38 (rfl : _ = 2) (rfl : _ = 7)
   obtain ⟨g_38, ca_38, kc_38, rfl, Nq38, K38, f38_0, f38_1, f38_2, f38_3, f38_4, f38_5⟩ := hQ38
   have N38 := own_frApp N0 Nq38 l38
   refine zx [.ref g_38] rfl ?_
   have B39 : BI Z T38.heap g_38 vv := ⟨ca_38, _, f38_1, f38_3, f38_5, Or.inr (Or.inl ⟨w2, hn2, f38_4, Or.inr ⟨f38_2, hv2⟩⟩)⟩
   exact own_finR X38 hx hlk hre rfl rfl d109 rfl ⟨g_38, rfl, N38, ((Keep.refl h0 []).trans K38 all0), B39⟩ (by decide) (by decide)
  by_cases c40 : ((.ref b) : Value) = (.ref a)
  ·refine zq 30 [] (fun t k => acmp X26 hx rfl (x := (.ref b)) (y := (.ref a)) rfl rfl (pc0 := 27) (pc' := 30) (same := true) rfl d27 rfl (decide_eq_true c40) (by decide) (by decide) k) ?_
   refine zI2 X26 hx d30 rfl 32 rfl ?_
   refine zq 34 [.int 20, .int 1] (fun t k => XS.bipush X26.here hx rfl d32 k) ?_
   refine zCY X26 hx d34 (flt (by decide : ¬ ((20 : Int32) < (1 : Int32)))).2.2.2 46 (by decide) ?_
   exact J28 
  ·refine zq 46 [] (fun t k => acmp X26 hx rfl (x := (.ref b)) (y := (.ref a)) rfl rfl (pc0 := 27) (pc' := 46) (same := false) rfl d27 rfl (decide_eq_false c40) (by decide) (by decide) k) ?_
   exact J28 
 ·refine zR X0 hx d0 rfl rfl 1 rfl ?_
  refine zP X0 hx hZ hown (tw hw 47 rfl) e0 Fs1 d1 4 rfl fun T41 X41 e41 => ?_
  refine zN X41 hx d4 ((if0 _ _).trans (feq (by decide : ¬ ((1 : Int32) = (0 : Int32)))).1) 7 rfl ?_
  refine zR X41 hx d7 rfl rfl 8 rfl ?_
  refine zP X41 hx hZ hown (tw hw 47 rfl) e41 Fs2 d8 11 rfl fun T42 X42 e42 => ?_
  refine zY X42 hx d11 ((if0 _ _).trans (feq (by decide : ¬ ((1 : Int32) = (0 : Int32)))).2) 18 (by decide) ?_
  refine zR X42 hx d18 rfl rfl 19 rfl ?_
  refine zP X42 hx hZ hown (tw hw 49 rfl) e42 Fm2 d19 22 rfl fun T43 X43 e43 => ?_
  refine zLn X43 hx hZ e43 Ar2 d22 23 rfl ?_
  refine zl 25 _ [] (fun t k => XS.istore X43.here hx rfl d23 rfl (l' := #[rv a, rv b, iv 0, iv 0, iv 0, iv 2, .unset, .unset, .unset]) rfl k) ?_
  refine zR X43 hx d25 rfl rfl 26 rfl ?_
  refine zR X43 hx d26 rfl rfl 27 rfl ?_
  have J45 : Ends p.tables e below (fun o U' => ∃ v L, o = .returned v ∧ QrmMul4 Z a b vv h0 n0 v U'.heap L ∧ FrameEnd s o U' L RrmMul4.cells RrmMul4.slots) (T43.setTop (mkF m 46 #[rv a, rv b, iv 0, iv 0, iv 0, iv 2, .unset, .unset, .unset] [])) := by
   refine zR X43 hx d46 rfl rfl 47 rfl ?_
   refine zP X43 hx hZ hown (tw hw 49 rfl) e43 Fm1 d47 50 rfl fun T46 X46 e46 => ?_
   refine zLn X46 hx hZ e46 Ar1 d50 51 rfl ?_
   refine zl 53 _ [] (fun t k => XS.istore X46.here hx rfl d51 rfl (l' := #[rv a, rv b, iv 0, iv 0, iv 0, iv 2, iv 1, .unset, .unset]) rfl k) ?_
   refine zI2 X46 hx d53 rfl 55 rfl ?_
   refine zq 57 [.int 80, .int 2] (fun t k => XS.bipush X46.here hx rfl d55 k) ?_
   refine zCY X46 hx d57 (tlt (by decide : ((2 : Int32) < (80 : Int32)))).1 67 (by decide) ?_
   refine zR X46 hx d67 rfl rfl 68 rfl ?_
   refine zP X46 hx hZ hown (tw hw 47 rfl) e46 Fs2 d68 71 rfl fun T48 X48 e48 => ?_
   refine zR X48 hx d71 rfl rfl 72 rfl ?_
   refine zP X48 hx hZ hown (tw hw 47 rfl) e48 Fs1 d72 75 rfl fun T49 X49 e49 => ?_
   refine zCN X49 hx d75 (teq (by decide : ((1 : Int32) = (1 : Int32)))).2 78 rfl ?_
   refine zK X49 hx d78 1 rfl 79 rfl ?_
   refine zG X49 hx d79 83 (by decide) ?_
   refine zl 85 _ [] (fun t k => XS.istore X49.here hx rfl d83 rfl (l' := #[rv a, rv b, iv 0, iv 0, iv 0, iv 2, iv 1, iv 1, .unset]) rfl k) ?_
   refine zR X49 hx d85 rfl rfl 86 rfl ?_
   refine zP X49 hx hZ hown (tw hw 49 rfl) e49 Fm1 d86 89 rfl fun T50 X50 e50 => ?_
   refine zLn X50 hx hZ e50 Ar1 d89 90 rfl ?_
   refine zK X50 hx d90 1 rfl 91 rfl ?_
   refine zCN X50 hx d91 (teq (by decide : ((1 : Int32) = (1 : Int32)))).2 94 rfl ?_
   refine zR X50 hx d94 rfl rfl 95 rfl ?_
   refine zP X50 hx hZ hown (tw hw 49 rfl) e50 Fm2 d95 98 rfl fun T52 X52 e52 => ?_
   refine zR X52 hx d98 rfl rfl 99 rfl ?_
   refine zP X52 hx hZ hown (tw hw 49 rfl) e52 Fm1 d99 102 rfl fun T53 X53 e53 => ?_
   refine zK X53 hx d102 0 rfl 103 rfl ?_
   refine zIa X53 hx hZ e53 Ar1 (by decide) rfl d103 104 rfl ?_
   refine zI2 X53 hx d104 rfl 106 rfl ?_
   refine zCS X53 hx hZ hml hown (tw hw 51 rfl) (tw hw 52 rfl) (tw hw 13 rfl) (tw hw 53 rfl) (rmMb12 l Z a0 hw [] m2 km2 (1 : Int32) w2 u2 h0 n0 Z0 Ar2) 0 (by decide) [] rfl (lenOf pd_21 rfl) rfl (Nat.le_of_eq rfl) e53 d106 109 rfl fun T55 L55 v55 X55 ⟨Lc55, hQ55, l55⟩ => ?_
   have X55 := own_reX X55 (rfl : _ = 2) (rfl : _ = 8)
   obtain ⟨g_55, ca_55, kc_55, rfl, Nq55, K55, f55_0, f55_1, f55_2, f55_3, f55_4, f55_5⟩ := hQ55
   have N55 := own_frApp N0 Nq55 l55
   refine zx [.ref g_55] rfl ?_
   have B56 : BI Z T55.heap g_55 vv := ⟨ca_55, _, f55_1, f55_3, f55_5, Or.inr (Or.inr ⟨w2, u2, hn2, f55_4, Or.inl ⟨f55_2, hv2⟩⟩)⟩
   exact own_finR X55 hx hlk hre rfl rfl d109 rfl ⟨g_55, rfl, N55, ((Keep.refl h0 []).trans K55 all0), B56⟩ (by decide) (by decide)
  by_cases c57 : ((.ref b) : Value) = (.ref a)
  ·refine zq 30 [] (fun t k => acmp X43 hx rfl (x := (.ref b)) (y := (.ref a)) rfl rfl (pc0 := 27) (pc' := 30) (same := true) rfl d27 rfl (decide_eq_true c57) (by decide) (by decide) k) ?_
   refine zI2 X43 hx d30 rfl 32 rfl ?_
   refine zq 34 [.int 20, .int 2] (fun t k => XS.bipush X43.here hx rfl d32 k) ?_
   refine zCY X43 hx d34 (flt (by decide : ¬ ((20 : Int32) < (2 : Int32)))).2.2.2 46 (by decide) ?_
   exact J45 
  ·refine zq 46 [] (fun t k => acmp X43 hx rfl (x := (.ref b)) (y := (.ref a)) rfl rfl (pc0 := 27) (pc' := 46) (same := false) rfl d27 rfl (decide_eq_false c57) (by decide) (by decide) k) ?_
   exact J45 
 ·refine zR X0 hx d0 rfl rfl 1 rfl ?_
  refine zP X0 hx hZ hown (tw hw 47 rfl) e0 Fs1 d1 4 rfl fun T58 X58 e58 => ?_
  refine zN X58 hx d4 ((if0 _ _).trans (feq (by decide : ¬ ((1 : Int32) = (0 : Int32)))).1) 7 rfl ?_
  refine zR X58 hx d7 rfl rfl 8 rfl ?_
  refine zP X58 hx hZ hown (tw hw 47 rfl) e58 Fs2 d8 11 rfl fun T59 X59 e59 => ?_
  refine zY X59 hx d11 ((if0 _ _).trans (feq (by decide : ¬ ((-1 : Int32) = (0 : Int32)))).2) 18 (by decide) ?_
  refine zR X59 hx d18 rfl rfl 19 rfl ?_
  refine zP X59 hx hZ hown (tw hw 49 rfl) e59 Fm2 d19 22 rfl fun T60 X60 e60 => ?_
  refine zLn X60 hx hZ e60 Ar2 d22 23 rfl ?_
  refine zl 25 _ [] (fun t k => XS.istore X60.here hx rfl d23 rfl (l' := #[rv a, rv b, iv 0, iv 0, iv 0, iv 2, .unset, .unset, .unset]) rfl k) ?_
  refine zR X60 hx d25 rfl rfl 26 rfl ?_
  refine zR X60 hx d26 rfl rfl 27 rfl ?_
  have J62 : Ends p.tables e below (fun o U' => ∃ v L, o = .returned v ∧ QrmMul4 Z a b vv h0 n0 v U'.heap L ∧ FrameEnd s o U' L RrmMul4.cells RrmMul4.slots) (T60.setTop (mkF m 46 #[rv a, rv b, iv 0, iv 0, iv 0, iv 2, .unset, .unset, .unset] [])) := by
   refine zR X60 hx d46 rfl rfl 47 rfl ?_
   refine zP X60 hx hZ hown (tw hw 49 rfl) e60 Fm1 d47 50 rfl fun T63 X63 e63 => ?_
   refine zLn X63 hx hZ e63 Ar1 d50 51 rfl ?_
   refine zl 53 _ [] (fun t k => XS.istore X63.here hx rfl d51 rfl (l' := #[rv a, rv b, iv 0, iv 0, iv 0, iv 2, iv 1, .unset, .unset]) rfl k) ?_
   refine zI2 X63 hx d53 rfl 55 rfl ?_
   refine zq 57 [.int 80, .int 2] (fun t k => XS.bipush X63.here hx rfl d55 k) ?_
   refine zCY X63 hx d57 (tlt (by decide : ((2 : Int32) < (80 : Int32)))).1 67 (by decide) ?_
   refine zR X63 hx d67 rfl rfl 68 rfl ?_
   refine zP X63 hx hZ hown (tw hw 47 rfl) e63 Fs2 d68 71 rfl fun T65 X65 e65 => ?_
   refine zR X65 hx d71 rfl rfl 72 rfl ?_
   refine zP X65 hx hZ hown (tw hw 47 rfl) e65 Fs1 d72 75 rfl fun T66 X66 e66 => ?_
   refine zCY X66 hx d75 (feq (by decide : ¬ ((-1 : Int32) = (1 : Int32)))).2 82 (by decide) ?_
   refine zK X66 hx d82 (-1 : Int32) rfl 83 rfl ?_
   refine zl 85 _ [] (fun t k => XS.istore X66.here hx rfl d83 rfl (l' := #[rv a, rv b, iv 0, iv 0, iv 0, iv 2, iv 1, iv (-1), .unset]) rfl k) ?_
   refine zR X66 hx d85 rfl rfl 86 rfl ?_
   refine zP X66 hx hZ hown (tw hw 49 rfl) e66 Fm1 d86 89 rfl fun T67 X67 e67 => ?_
   refine zLn X67 hx hZ e67 Ar1 d89 90 rfl ?_
   refine zK X67 hx d90 1 rfl 91 rfl ?_
   refine zCN X67 hx d91 (teq (by decide : ((1 : Int32) = (1 : Int32)))).2 94 rfl ?_
   refine zR X67 hx d94 rfl rfl 95 rfl ?_
   refine zP X67 hx hZ hown (tw hw 49 rfl) e67 Fm2 d95 98 rfl fun T69 X69 e69 => ?_
   refine zR X69 hx d98 rfl rfl 99 rfl ?_
   refine zP X69 hx hZ hown (tw hw 49 rfl) e69 Fm1 d99 102 rfl fun T70 X70 e70 => ?_
   refine zK X70 hx d102 0 rfl 103 rfl ?_
   refine zIa X70 hx hZ e70 Ar1 (by decide) rfl d103 104 rfl ?_
   refine zI2 X70 hx d104 rfl 106 rfl ?_
   refine zCS X70 hx hZ hml hown (tw hw 51 rfl) (tw hw 52 rfl) (tw hw 13 rfl) (tw hw 53 rfl) (rmMb12 l Z a0 hw [] m2 km2 (-1 : Int32) w2 u2 h0 n0 Z0 Ar2) 0 (by decide) [] rfl (lenOf pd_21 rfl) rfl (Nat.le_of_eq rfl) e70 d106 109 rfl fun T72 L72 v72 X72 ⟨Lc72, hQ72, l72⟩ => ?_
   have X72 := own_reX X72 (rfl : _ = 2) (rfl : _ = 8)
   obtain ⟨g_72, ca_72, kc_72, rfl, Nq72, K72, f72_0, f72_1, f72_2, f72_3, f72_4, f72_5⟩ := hQ72
   have N72 := own_frApp N0 Nq72 l72
   refine zx [.ref g_72] rfl ?_
   have B73 : BI Z T72.heap g_72 vv := ⟨ca_72, _, f72_1, f72_3, f72_5, Or.inr (Or.inr ⟨w2, u2, hn2, f72_4, Or.inr ⟨f72_2, hv2⟩⟩)⟩
   exact own_finR X72 hx hlk hre rfl rfl d109 rfl ⟨g_72, rfl, N72, ((Keep.refl h0 []).trans K72 all0), B73⟩ (by decide) (by decide)
  by_cases c74 : ((.ref b) : Value) = (.ref a)
  ·refine zq 30 [] (fun t k => acmp X60 hx rfl (x := (.ref b)) (y := (.ref a)) rfl rfl (pc0 := 27) (pc' := 30) (same := true) rfl d27 rfl (decide_eq_true c74) (by decide) (by decide) k) ?_
   refine zI2 X60 hx d30 rfl 32 rfl ?_
   refine zq 34 [.int 20, .int 2] (fun t k => XS.bipush X60.here hx rfl d32 k) ?_
   refine zCY X60 hx d34 (flt (by decide : ¬ ((20 : Int32) < (2 : Int32)))).2.2.2 46 (by decide) ?_
   exact J62 
  ·refine zq 46 [] (fun t k => acmp X60 hx rfl (x := (.ref b)) (y := (.ref a)) rfl rfl (pc0 := 27) (pc' := 46) (same := false) rfl d27 rfl (decide_eq_false c74) (by decide) (by decide) k) ?_
   exact J62 
def QrmMul (Z : State) (a : Addr) (b : Addr) (vv : Int) (h0 : Heap) (n0 : Nat) (v : Option Value) (h : Heap) (L : List Loc) : Prop := ∃ g : Addr, v = some (.ref g) ∧ Fr n0 L ∧ Keep h0 h [] ∧ (BI Z h g vv)
abbrev RrmMul : Room := { frames := 5, cells := 2, slots := 8, locals := 97 }
theorem rmMul (l : Launch) (Z : State) (a0 : Array Value) (hw : ∀ d ∈ tables_1, d.before a0 Z = true) (ws : List Jvm.Cond) (a : Addr) (b : Addr) (vv : Int) (h0 : Heap) (n0 : Nat) (Z0 : n0 ≤ h0.size) (zA oA pA nA : Addr) (kP kN : ClassId) (vP vN : List Value) (G0 : Gl Z zA oA pA nA kP kN vP vN) (X00 : Old Z n0 h0) (p_BI_a : BI Z h0 a vv) (p_BI_b : BI Z h0 b (1 : Int)) : Mf l Z Nm40 jdk_2097_method_40_code 2 (Option.some (Jvm.ClassFile.FieldType.object "java/math/BigInteger")) ws RrmMul #[(.ref a), (.ref b)] h0 (QrmMul Z a b vv h0 n0) := by
 refine own_entry (plainFor_of_name pn_java_math_BigInteger) #[rv a, rv b] (fun _ => rfl) fun p e s m below meth c s₁ hx hby hml hown hnm hlk hre hZ X0 e0 => ?_
 have N0 := Fr.nil n0
 obtain ⟨d0, d1, d2, d3, d4, d5, d8, -⟩ := D_40 hby
 obtain ⟨SZ, BZ, SO, BO, SP, AP, hcP, SN, AN, hcN⟩ := id G0
 refine zR X0 hx d0 rfl rfl 1 rfl ?_
 refine zR X0 hx d1 rfl rfl 2 rfl ?_
 refine zK X0 hx d2 0 rfl 3 rfl ?_
 refine zK X0 hx d3 0 rfl 4 rfl ?_
 refine zK X0 hx d4 0 rfl 5 rfl ?_
 refine zCP X0 hx hZ hml hown (tw hw 42 rfl) (tw hw 44 rfl) (tw hw 13 rfl) (tw hw 46 rfl) (tw hw 45 rfl) (tw hw 43 rfl) (rmMul4 l Z a0 hw [] a b vv h0 n0 Z0 zA oA pA nA kP kN vP vN G0 X00 p_BI_a p_BI_b) 0 (by decide) a [] rfl rfl (lenOf pd_22 rfl) rfl (Nat.le_of_eq rfl) e0 (BI.exa p_BI_a) d5 8 rfl fun T1 L1 v1 X1 ⟨Lc1, hQ1, l1⟩ => ?_
 have X1 := own_reX X1 (rfl : _ = 2) (rfl : _ = 8)
 obtain ⟨g_1, rfl, Nq1, K1, f1_0⟩ := hQ1
 have N1 := own_frApp N0 Nq1 l1
 refine zx [.ref g_1] rfl ?_
 exact own_finR X1 hx hlk hre rfl rfl d8 rfl ⟨g_1, rfl, N1, ((Keep.refl h0 []).trans K1 all0), f1_0⟩ (by decide) (by decide)
def QrmCm12 (Z : State) (a : Addr) (b : Addr) (ma : Addr) (mc : Addr) (k : ClassId) (kc : ClassId) (x : Int32) (y : Int32) (y1 : Int32) (h0 : Heap) (n0 : Nat) (v : Option Value) (h : Heap) (L : List Loc) : Prop := v = some (.int (-1 : Int32)) ∧ Fr n0 L ∧ h = h0
abbrev RrmCm12 : Room := { frames := 0, cells := 0, slots := 0, locals := 0 }
theorem rmCm12 (l : Launch) (Z : State) (a0 : Array Value) (hw : ∀ d ∈ tables_1, d.before a0 Z = true) (ws : List Jvm.Cond) (a : Addr) (b : Addr) (ma : Addr) (mc : Addr) (k : ClassId) (kc : ClassId) (x : Int32) (y : Int32) (y1 : Int32) (h0 : Heap) (n0 : Nat) (Z0 : n0 ≤ h0.size)  (p_Fld_a_mag : Fld Z h0 a "java/math/BigInteger" "mag" "[I" (.ref ma)) (p_Arv_ma : Arv Z h0 ma k .int (1 : Int32) [(.int x)] (.int (0 : Int32))) (p_Fld_b_mag : Fld Z h0 b "java/math/BigInteger" "mag" "[I" (.ref mc)) (p_Arv_mc : Arv Z h0 mc kc .int (2 : Int32) [(.int y), (.int y1)] (.int (0 : Int32))) : Mf l Z Nm41 jdk_2097_method_122_code 9 (Option.some Jvm.ClassFile.FieldType.int) ws RrmCm12 #[(.ref a), (.ref b)] h0 (QrmCm12 Z a b ma mc k kc x y y1 h0 n0) := by
 refine own_entry (plainFor_of_name pn_java_math_BigInteger) #[rv a, rv b, .unset, .unset, .unset, .unset, .unset, .unset, .unset] (fun _ => rfl) fun p e s m below meth c s₁ hx hby hml hown hnm hlk hre hZ X0 e0 => ?_
 have N0 := Fr.nil n0
 obtain ⟨d0, d1, d4, d5, d6, d7, d8, d9, d12, d14, d16, d17, d19, d20, d22, d25, d26, -⟩ := D_41 hby
 refine zR X0 hx d0 rfl rfl 1 rfl ?_
 refine zP X0 hx hZ hown (tw hw 49 rfl) e0 p_Fld_a_mag d1 4 rfl fun T1 X1 e1 => ?_
 refine zl 5 _ [] (fun t k => XS.astoreN X1.here hx rfl d4 rfl rfl (l' := #[rv a, rv b, rv ma, .unset, .unset, .unset, .unset, .unset, .unset]) rfl k) ?_
 refine zR X1 hx d5 rfl rfl 6 rfl ?_
 refine zLn X1 hx hZ e1 p_Arv_ma d6 7 rfl ?_
 refine zl 8 _ [] (fun t k => XS.istoreN X1.here hx rfl d7 rfl (l' := #[rv a, rv b, rv ma, iv 1, .unset, .unset, .unset, .unset, .unset]) rfl k) ?_
 refine zR X1 hx d8 rfl rfl 9 rfl ?_
 refine zP X1 hx hZ hown (tw hw 49 rfl) e1 p_Fld_b_mag d9 12 rfl fun T3 X3 e3 => ?_
 refine zl 14 _ [] (fun t k => XS.astore X3.here hx rfl d12 rfl rfl (l' := #[rv a, rv b, rv ma, iv 1, rv mc, .unset, .unset, .unset, .unset]) rfl k) ?_
 refine zR2 X3 hx d14 rfl rfl 16 rfl ?_
 refine zLn X3 hx hZ e3 p_Arv_mc d16 17 rfl ?_
 refine zl 19 _ [] (fun t k => XS.istore X3.here hx rfl d17 rfl (l' := #[rv a, rv b, rv ma, iv 1, rv mc, iv 2, .unset, .unset, .unset]) rfl k) ?_
 refine zI X3 hx d19 rfl 20 rfl ?_
 refine zI2 X3 hx d20 rfl 22 rfl ?_
 refine zCN X3 hx d22 (tlt (by decide : ((1 : Int32) < (2 : Int32)))).2.1 25 rfl ?_
 refine zK X3 hx d25 (-1 : Int32) rfl 26 rfl ?_
 exact own_finI X3 hx hlk (t := .int) hre (by simp) rfl d26 e3 ⟨rfl, N0, rfl⟩ (by decide) (by decide)
def QrmCm21 (Z : State) (a : Addr) (b : Addr) (ma : Addr) (mc : Addr) (k : ClassId) (kc : ClassId) (x : Int32) (x1 : Int32) (y : Int32) (h0 : Heap) (n0 : Nat) (v : Option Value) (h : Heap) (L : List Loc) : Prop := v = some (.int (1 : Int32)) ∧ Fr n0 L ∧ h = h0
abbrev RrmCm21 : Room := { frames := 0, cells := 0, slots := 0, locals := 0 }
theorem rmCm21 (l : Launch) (Z : State) (a0 : Array Value) (hw : ∀ d ∈ tables_1, d.before a0 Z = true) (ws : List Jvm.Cond) (a : Addr) (b : Addr) (ma : Addr) (mc : Addr) (k : ClassId) (kc : ClassId) (x : Int32) (x1 : Int32) (y : Int32) (h0 : Heap) (n0 : Nat) (Z0 : n0 ≤ h0.size)  (p_Fld_a_mag : Fld Z h0 a "java/math/BigInteger" "mag" "[I" (.ref ma)) (p_Arv_ma : Arv Z h0 ma k .int (2 : Int32) [(.int x), (.int x1)] (.int (0 : Int32))) (p_Fld_b_mag : Fld Z h0 b "java/math/BigInteger" "mag" "[I" (.ref mc)) (p_Arv_mc : Arv Z h0 mc kc .int (1 : Int32) [(.int y)] (.int (0 : Int32))) : Mf l Z Nm41 jdk_2097_method_122_code 9 (Option.some Jvm.ClassFile.FieldType.int) ws RrmCm21 #[(.ref a), (.ref b)] h0 (QrmCm21 Z a b ma mc k kc x x1 y h0 n0) := by
 refine own_entry (plainFor_of_name pn_java_math_BigInteger) #[rv a, rv b, .unset, .unset, .unset, .unset, .unset, .unset, .unset] (fun _ => rfl) fun p e s m below meth c s₁ hx hby hml hown hnm hlk hre hZ X0 e0 => ?_
 have N0 := Fr.nil n0
 obtain ⟨d0, d1, d4, d5, d6, d7, d8, d9, d12, d14, d16, d17, d19, d20, d22, -, -, d27, d28, d30, d33, d34, -⟩ := D_41 hby
 refine zR X0 hx d0 rfl rfl 1 rfl ?_
 refine zP X0 hx hZ hown (tw hw 49 rfl) e0 p_Fld_a_mag d1 4 rfl fun T1 X1 e1 => ?_
 refine zl 5 _ [] (fun t k => XS.astoreN X1.here hx rfl d4 rfl rfl (l' := #[rv a, rv b, rv ma, .unset, .unset, .unset, .unset, .unset, .unset]) rfl k) ?_
 refine zR X1 hx d5 rfl rfl 6 rfl ?_
 refine zLn X1 hx hZ e1 p_Arv_ma d6 7 rfl ?_
 refine zl 8 _ [] (fun t k => XS.istoreN X1.here hx rfl d7 rfl (l' := #[rv a, rv b, rv ma, iv 2, .unset, .unset, .unset, .unset, .unset]) rfl k) ?_
 refine zR X1 hx d8 rfl rfl 9 rfl ?_
 refine zP X1 hx hZ hown (tw hw 49 rfl) e1 p_Fld_b_mag d9 12 rfl fun T3 X3 e3 => ?_
 refine zl 14 _ [] (fun t k => XS.astore X3.here hx rfl d12 rfl rfl (l' := #[rv a, rv b, rv ma, iv 2, rv mc, .unset, .unset, .unset, .unset]) rfl k) ?_
 refine zR2 X3 hx d14 rfl rfl 16 rfl ?_
 refine zLn X3 hx hZ e3 p_Arv_mc d16 17 rfl ?_
 refine zl 19 _ [] (fun t k => XS.istore X3.here hx rfl d17 rfl (l' := #[rv a, rv b, rv ma, iv 2, rv mc, iv 1, .unset, .unset, .unset]) rfl k) ?_
 refine zI X3 hx d19 rfl 20 rfl ?_
 refine zI2 X3 hx d20 rfl 22 rfl ?_
 refine zCY X3 hx d22 (flt (by decide : ¬ ((2 : Int32) < (1 : Int32)))).2.1 27 (by decide) ?_
 refine zI X3 hx d27 rfl 28 rfl ?_
 refine zI2 X3 hx d28 rfl 30 rfl ?_
 refine zCN X3 hx d30 (tlt (by decide : ((1 : Int32) < (2 : Int32)))).2.2.2 33 rfl ?_
 refine zK X3 hx d33 1 rfl 34 rfl ?_
 exact own_finI X3 hx hlk (t := .int) hre (by simp) rfl d34 e3 ⟨rfl, N0, rfl⟩ (by decide) (by decide)
def QrmCm11 (Z : State) (a : Addr) (b : Addr) (ma : Addr) (mc : Addr) (k : ClassId) (kc : ClassId) (x : Int32) (y : Int32) (h0 : Heap) (n0 : Nat) (v : Option Value) (h : Heap) (L : List Loc) : Prop := ∃ c : Int32, v = some (.int c) ∧ Fr n0 L ∧ h = h0 ∧ (Cm c (UI x : Int) (UI y : Int))
abbrev RrmCm11 : Room := { frames := 0, cells := 0, slots := 0, locals := 0 }
theorem rmCm11 (l : Launch) (Z : State) (a0 : Array Value) (hw : ∀ d ∈ tables_1, d.before a0 Z = true) (ws : List Jvm.Cond) (a : Addr) (b : Addr) (ma : Addr) (mc : Addr) (k : ClassId) (kc : ClassId) (x : Int32) (y : Int32) (h0 : Heap) (n0 : Nat) (Z0 : n0 ≤ h0.size)  (p_Fld_a_mag : Fld Z h0 a "java/math/BigInteger" "mag" "[I" (.ref ma)) (p_Arv_ma : Arv Z h0 ma k .int (1 : Int32) [(.int x)] (.int (0 : Int32))) (p_Fld_b_mag : Fld Z h0 b "java/math/BigInteger" "mag" "[I" (.ref mc)) (p_Arv_mc : Arv Z h0 mc kc .int (1 : Int32) [(.int y)] (.int (0 : Int32))) : Mf l Z Nm41 jdk_2097_method_122_code 9 (Option.some Jvm.ClassFile.FieldType.int) ws RrmCm11 #[(.ref a), (.ref b)] h0 (QrmCm11 Z a b ma mc k kc x y h0 n0) := by
 refine own_entry (plainFor_of_name pn_java_math_BigInteger) #[rv a, rv b, .unset, .unset, .unset, .unset, .unset, .unset, .unset] (fun _ => rfl) fun p e s m below meth c s₁ hx hby hml hown hnm hlk hre hZ X0 e0 => ?_
 have N0 := Fr.nil n0
 obtain ⟨d0, d1, d4, d5, d6, d7, d8, d9, d12, d14, d16, d17, d19, d20, d22, -, -, d27, d28, d30, -, -, d35, d36, d38, d40, d41, d44, d45, d47, d48, d50, d52, d54, d55, d57, d59, d61, d64, d66, d67, d70, d71, d73, d74, d77, d78, d79, d82, d83, d86, d87, d88, d91, d94, d95, -⟩ := D_41 hby
 refine zR X0 hx d0 rfl rfl 1 rfl ?_
 refine zP X0 hx hZ hown (tw hw 49 rfl) e0 p_Fld_a_mag d1 4 rfl fun T1 X1 e1 => ?_
 refine zl 5 _ [] (fun t k => XS.astoreN X1.here hx rfl d4 rfl rfl (l' := #[rv a, rv b, rv ma, .unset, .unset, .unset, .unset, .unset, .unset]) rfl k) ?_
 refine zR X1 hx d5 rfl rfl 6 rfl ?_
 refine zLn X1 hx hZ e1 p_Arv_ma d6 7 rfl ?_
 refine zl 8 _ [] (fun t k => XS.istoreN X1.here hx rfl d7 rfl (l' := #[rv a, rv b, rv ma, iv 1, .unset, .unset, .unset, .unset, .unset]) rfl k) ?_
 refine zR X1 hx d8 rfl rfl 9 rfl ?_
 refine zP X1 hx hZ hown (tw hw 49 rfl) e1 p_Fld_b_mag d9 12 rfl fun T3 X3 e3 => ?_
 refine zl 14 _ [] (fun t k => XS.astore X3.here hx rfl d12 rfl rfl (l' := #[rv a, rv b, rv ma, iv 1, rv mc, .unset, .unset, .unset, .unset]) rfl k) ?_
 refine zR2 X3 hx d14 rfl rfl 16 rfl ?_
 refine zLn X3 hx hZ e3 p_Arv_mc d16 17 rfl ?_
 refine zl 19 _ [] (fun t k => XS.istore X3.here hx rfl d17 rfl (l' := #[rv a, rv b, rv ma, iv 1, rv mc, iv 1, .unset, .unset, .unset]) rfl k) ?_
 refine zI X3 hx d19 rfl 20 rfl ?_
 refine zI2 X3 hx d20 rfl 22 rfl ?_
 refine zCY X3 hx d22 (flt (by decide : ¬ ((1 : Int32) < (1 : Int32)))).2.1 27 (by decide) ?_
 refine zI X3 hx d27 rfl 28 rfl ?_
 refine zI2 X3 hx d28 rfl 30 rfl ?_
 refine zCY X3 hx d30 (flt (by decide : ¬ ((1 : Int32) < (1 : Int32)))).2.2.2 35 (by decide) ?_
 refine zK X3 hx d35 0 rfl 36 rfl ?_
 refine zl 38 _ [] (fun t k => XS.istore X3.here hx rfl d36 rfl (l' := #[rv a, rv b, rv ma, iv 1, rv mc, iv 1, iv 0, .unset, .unset]) rfl k) ?_
 refine zI2 X3 hx d38 rfl 40 rfl ?_
 refine zI X3 hx d40 rfl 41 rfl ?_
 refine zCN X3 hx d41 (tlt (by decide : ((0 : Int32) < (1 : Int32)))).2.1 44 rfl ?_
 refine zR X3 hx d44 rfl rfl 45 rfl ?_
 refine zI2 X3 hx d45 rfl 47 rfl ?_
 refine zIa X3 hx hZ e3 p_Arv_ma (by decide) rfl d47 48 rfl ?_
 refine zl 50 _ [] (fun t k => XS.istore X3.here hx rfl d48 rfl (l' := #[rv a, rv b, rv ma, iv 1, rv mc, iv 1, iv 0, iv x, .unset]) rfl k) ?_
 refine zR2 X3 hx d50 rfl rfl 52 rfl ?_
 refine zI2 X3 hx d52 rfl 54 rfl ?_
 refine zIa X3 hx hZ e3 p_Arv_mc (by decide) rfl d54 55 rfl ?_
 refine zl 57 _ [] (fun t k => XS.istore X3.here hx rfl d55 rfl (l' := #[rv a, rv b, rv ma, iv 1, rv mc, iv 1, iv 0, iv x, iv y]) rfl k) ?_
 refine zI2 X3 hx d57 rfl 59 rfl ?_
 refine zI2 X3 hx d59 rfl 61 rfl ?_
 by_cases c7 : x = y
 ·refine zCY X3 hx d61 (teq c7).1 88 (by decide) ?_
  refine zl 91 _ [] (fun t k => own_iinc X3.here hx rfl (q := (1 : Int32)) (by decide) (l' := #[.val (.ref a), .val (.ref b), .val (.ref ma), .val (.int (1 : Int32)), .val (.ref mc), .val (.int (1 : Int32)), .val (.int ((0 : Int32) + (1 : Int32))), .val (.int x), .val (.int y)]) d88 rfl rfl k) ?_
  have rw8 : ((0 : Int32) + (1 : Int32)) = (1 : Int32) := (by decide)
  rw [rw8]
  refine zG X3 hx d91 38 (by decide) ?_
  refine zI2 X3 hx d38 rfl 40 rfl ?_
  refine zI X3 hx d40 rfl 41 rfl ?_
  refine zCY X3 hx d41 (flt (by decide : ¬ ((1 : Int32) < (1 : Int32)))).2.1 94 (by decide) ?_
  refine zK X3 hx d94 0 rfl 95 rfl ?_
  exact own_finI X3 hx hlk (t := .int) hre (by simp) rfl d95 e3 ⟨(0 : Int32), rfl, N0, rfl, (cm_eq c7)⟩ (by decide) (by decide)
 ·refine zCN X3 hx d61 (feq c7).1 64 rfl ?_
  refine zI2 X3 hx d64 rfl 66 rfl ?_
  refine zq 67 [.long (x.toInt64)] (fun t k => XS.i2l X3.here hx rfl d66 rfl k) ?_
  refine zq 70 [.long 4294967295, .long (x.toInt64)] (fun t k => X3.ldc2Long hx hown (mvT hZ (tw hw 257 rfl)) (g := (mkF m 67 #[rv a, rv b, rv ma, iv 1, rv mc, iv 1, iv 0, iv x, iv y] [.long (x.toInt64)])) rfl d67 _ k) ?_
  refine zq 71 [.long ((x.toInt64) &&& (4294967295 : Int64))] (fun t k => XS.land X3.here hx rfl d70 rfl k) ?_
  refine zI2 X3 hx d71 rfl 73 rfl ?_
  refine zq 74 [.long (y.toInt64), .long ((x.toInt64) &&& (4294967295 : Int64))] (fun t k => XS.i2l X3.here hx rfl d73 rfl k) ?_
  refine zq 77 [.long 4294967295, .long (y.toInt64), .long ((x.toInt64) &&& (4294967295 : Int64))] (fun t k => X3.ldc2Long hx hown (mvT hZ (tw hw 257 rfl)) (g := (mkF m 74 #[rv a, rv b, rv ma, iv 1, rv mc, iv 1, iv 0, iv x, iv y] [.long (y.toInt64), .long ((x.toInt64) &&& (4294967295 : Int64))])) rfl d74 _ k) ?_
  refine zq 78 [.long ((y.toInt64) &&& (4294967295 : Int64)), .long ((x.toInt64) &&& (4294967295 : Int64))] (fun t k => XS.land X3.here hx rfl d77 rfl k) ?_
  refine zq 79 [.int (lcmpW ((x.toInt64) &&& (4294967295 : Int64)) ((y.toInt64) &&& (4294967295 : Int64)))] (fun t k => XS.lcmp X3.here hx rfl d78 rfl k) ?_
  by_cases c9 : (lcmpW ((x.toInt64) &&& (4294967295 : Int64)) ((y.toInt64) &&& (4294967295 : Int64))) < (0 : Int32)
  ·refine zN X3 hx d79 ((if0 _ _).trans (tlt c9).2.1) 82 rfl ?_
   refine zK X3 hx d82 (-1 : Int32) rfl 83 rfl ?_
   refine zG X3 hx d83 87 (by decide) ?_
   exact own_finI X3 hx hlk (t := .int) hre (by simp) rfl d87 e3 ⟨(-1 : Int32), rfl, N0, rfl, (cm_lt c9)⟩ (by decide) (by decide)
  ·refine zY X3 hx d79 ((if0 _ _).trans (flt c9).2.1) 86 (by decide) ?_
   refine zK X3 hx d86 1 rfl 87 rfl ?_
   exact own_finI X3 hx hlk (t := .int) hre (by simp) rfl d87 e3 ⟨(1 : Int32), rfl, N0, rfl, (cm_gt c7 c9)⟩ (by decide) (by decide)
def QrmCm22 (Z : State) (a : Addr) (b : Addr) (ma : Addr) (mc : Addr) (k : ClassId) (kc : ClassId) (x : Int32) (x1 : Int32) (y : Int32) (y1 : Int32) (h0 : Heap) (n0 : Nat) (v : Option Value) (h : Heap) (L : List Loc) : Prop := ∃ c : Int32, v = some (.int c) ∧ Fr n0 L ∧ h = h0 ∧ (Cm c ((UI x : Int) * 4294967296 + UI x1) ((UI y : Int) * 4294967296 + UI y1))
abbrev RrmCm22 : Room := { frames := 0, cells := 0, slots := 0, locals := 0 }
theorem rmCm22 (l : Launch) (Z : State) (a0 : Array Value) (hw : ∀ d ∈ tables_1, d.before a0 Z = true) (ws : List Jvm.Cond) (a : Addr) (b : Addr) (ma : Addr) (mc : Addr) (k : ClassId) (kc : ClassId) (x : Int32) (x1 : Int32) (y : Int32) (y1 : Int32) (h0 : Heap) (n0 : Nat) (Z0 : n0 ≤ h0.size)  (p_Fld_a_mag : Fld Z h0 a "java/math/BigInteger" "mag" "[I" (.ref ma)) (p_Arv_ma : Arv Z h0 ma k .int (2 : Int32) [(.int x), (.int x1)] (.int (0 : Int32))) (p_Fld_b_mag : Fld Z h0 b "java/math/BigInteger" "mag" "[I" (.ref mc)) (p_Arv_mc : Arv Z h0 mc kc .int (2 : Int32) [(.int y), (.int y1)] (.int (0 : Int32))) : Mf l Z Nm41 jdk_2097_method_122_code 9 (Option.some Jvm.ClassFile.FieldType.int) ws RrmCm22 #[(.ref a), (.ref b)] h0 (QrmCm22 Z a b ma mc k kc x x1 y y1 h0 n0) := by
 refine own_entry (plainFor_of_name pn_java_math_BigInteger) #[rv a, rv b, .unset, .unset, .unset, .unset, .unset, .unset, .unset] (fun _ => rfl) fun p e s m below meth c s₁ hx hby hml hown hnm hlk hre hZ X0 e0 => ?_
 have N0 := Fr.nil n0
 obtain ⟨d0, d1, d4, d5, d6, d7, d8, d9, d12, d14, d16, d17, d19, d20, d22, -, -, d27, d28, d30, -, -, d35, d36, d38, d40, d41, d44, d45, d47, d48, d50, d52, d54, d55, d57, d59, d61, d64, d66, d67, d70, d71, d73, d74, d77, d78, d79, d82, d83, d86, d87, d88, d91, d94, d95, -⟩ := D_41 hby
 refine zR X0 hx d0 rfl rfl 1 rfl ?_
 refine zP X0 hx hZ hown (tw hw 49 rfl) e0 p_Fld_a_mag d1 4 rfl fun T1 X1 e1 => ?_
 refine zl 5 _ [] (fun t k => XS.astoreN X1.here hx rfl d4 rfl rfl (l' := #[rv a, rv b, rv ma, .unset, .unset, .unset, .unset, .unset, .unset]) rfl k) ?_
 refine zR X1 hx d5 rfl rfl 6 rfl ?_
 refine zLn X1 hx hZ e1 p_Arv_ma d6 7 rfl ?_
 refine zl 8 _ [] (fun t k => XS.istoreN X1.here hx rfl d7 rfl (l' := #[rv a, rv b, rv ma, iv 2, .unset, .unset, .unset, .unset, .unset]) rfl k) ?_
 refine zR X1 hx d8 rfl rfl 9 rfl ?_
 refine zP X1 hx hZ hown (tw hw 49 rfl) e1 p_Fld_b_mag d9 12 rfl fun T3 X3 e3 => ?_
 refine zl 14 _ [] (fun t k => XS.astore X3.here hx rfl d12 rfl rfl (l' := #[rv a, rv b, rv ma, iv 2, rv mc, .unset, .unset, .unset, .unset]) rfl k) ?_
 refine zR2 X3 hx d14 rfl rfl 16 rfl ?_
 refine zLn X3 hx hZ e3 p_Arv_mc d16 17 rfl ?_
 refine zl 19 _ [] (fun t k => XS.istore X3.here hx rfl d17 rfl (l' := #[rv a, rv b, rv ma, iv 2, rv mc, iv 2, .unset, .unset, .unset]) rfl k) ?_
 refine zI X3 hx d19 rfl 20 rfl ?_
 refine zI2 X3 hx d20 rfl 22 rfl ?_
 refine zCY X3 hx d22 (flt (by decide : ¬ ((2 : Int32) < (2 : Int32)))).2.1 27 (by decide) ?_
 refine zI X3 hx d27 rfl 28 rfl ?_
 refine zI2 X3 hx d28 rfl 30 rfl ?_
 refine zCY X3 hx d30 (flt (by decide : ¬ ((2 : Int32) < (2 : Int32)))).2.2.2 35 (by decide) ?_
 refine zK X3 hx d35 0 rfl 36 rfl ?_
 refine zl 38 _ [] (fun t k => XS.istore X3.here hx rfl d36 rfl (l' := #[rv a, rv b, rv ma, iv 2, rv mc, iv 2, iv 0, .unset, .unset]) rfl k) ?_
 refine zI2 X3 hx d38 rfl 40 rfl ?_
 refine zI X3 hx d40 rfl 41 rfl ?_
 refine zCN X3 hx d41 (tlt (by decide : ((0 : Int32) < (2 : Int32)))).2.1 44 rfl ?_
 refine zR X3 hx d44 rfl rfl 45 rfl ?_
 refine zI2 X3 hx d45 rfl 47 rfl ?_
 refine zIa X3 hx hZ e3 p_Arv_ma (by decide) rfl d47 48 rfl ?_
 refine zl 50 _ [] (fun t k => XS.istore X3.here hx rfl d48 rfl (l' := #[rv a, rv b, rv ma, iv 2, rv mc, iv 2, iv 0, iv x, .unset]) rfl k) ?_
 refine zR2 X3 hx d50 rfl rfl 52 rfl ?_
 refine zI2 X3 hx d52 rfl 54 rfl ?_
 refine zIa X3 hx hZ e3 p_Arv_mc (by decide) rfl d54 55 rfl ?_
 refine zl 57 _ [] (fun t k => XS.istore X3.here hx rfl d55 rfl (l' := #[rv a, rv b, rv ma, iv 2, rv mc, iv 2, iv 0, iv x, iv y]) rfl k) ?_
 refine zI2 X3 hx d57 rfl 59 rfl ?_
 refine zI2 X3 hx d59 rfl 61 rfl ?_
 by_cases c7 : x = y
 ·refine zCY X3 hx d61 (teq c7).1 88 (by decide) ?_
  refine zl 91 _ [] (fun t k => own_iinc X3.here hx rfl (q := (1 : Int32)) (by decide) (l' := #[.val (.ref a), .val (.ref b), .val (.ref ma), .val (.int (2 : Int32)), .val (.ref mc), .val (.int (2 : Int32)), .val (.int ((0 : Int32) + (1 : Int32))), .val (.int x), .val (.int y)]) d88 rfl rfl k) ?_
  have rw8 : ((0 : Int32) + (1 : Int32)) = (1 : Int32) := (by decide)
  rw [rw8]
  refine zG X3 hx d91 38 (by decide) ?_
  refine zI2 X3 hx d38 rfl 40 rfl ?_
  refine zI X3 hx d40 rfl 41 rfl ?_
  refine zCN X3 hx d41 (tlt (by decide : ((1 : Int32) < (2 : Int32)))).2.1 44 rfl ?_
  refine zR X3 hx d44 rfl rfl 45 rfl ?_
  refine zI2 X3 hx d45 rfl 47 rfl ?_
  refine zIa X3 hx hZ e3 p_Arv_ma (by decide) rfl d47 48 rfl ?_
  refine zl 50 _ [] (fun t k => XS.istore X3.here hx rfl d48 rfl (l' := #[rv a, rv b, rv ma, iv 2, rv mc, iv 2, iv 1, iv x1, iv y]) rfl k) ?_
  refine zR2 X3 hx d50 rfl rfl 52 rfl ?_
  refine zI2 X3 hx d52 rfl 54 rfl ?_
  refine zIa X3 hx hZ e3 p_Arv_mc (by decide) rfl d54 55 rfl ?_
  refine zl 57 _ [] (fun t k => XS.istore X3.here hx rfl d55 rfl (l' := #[rv a, rv b, rv ma, iv 2, rv mc, iv 2, iv 1, iv x1, iv y1]) rfl k) ?_
  refine zI2 X3 hx d57 rfl 59 rfl ?_
  refine zI2 X3 hx d59 rfl 61 rfl ?_
  by_cases c11 : x1 = y1
  ·refine zCY X3 hx d61 (teq c11).1 88 (by decide) ?_
   refine zl 91 _ [] (fun t k => own_iinc X3.here hx rfl (q := (1 : Int32)) (by decide) (l' := #[.val (.ref a), .val (.ref b), .val (.ref ma), .val (.int (2 : Int32)), .val (.ref mc), .val (.int (2 : Int32)), .val (.int ((1 : Int32) + (1 : Int32))), .val (.int x1), .val (.int y1)]) d88 rfl rfl k) ?_
   have rw12 : ((1 : Int32) + (1 : Int32)) = (2 : Int32) := (by decide)
   rw [rw12]
   refine zG X3 hx d91 38 (by decide) ?_
   refine zI2 X3 hx d38 rfl 40 rfl ?_
   refine zI X3 hx d40 rfl 41 rfl ?_
   refine zCY X3 hx d41 (flt (by decide : ¬ ((2 : Int32) < (2 : Int32)))).2.1 94 (by decide) ?_
   refine zK X3 hx d94 0 rfl 95 rfl ?_
   exact own_finI X3 hx hlk (t := .int) hre (by simp) rfl d95 e3 ⟨(0 : Int32), rfl, N0, rfl, (cm2_lo c7 (cm_eq c11))⟩ (by decide) (by decide)
  ·refine zCN X3 hx d61 (feq c11).1 64 rfl ?_
   refine zI2 X3 hx d64 rfl 66 rfl ?_
   refine zq 67 [.long (x1.toInt64)] (fun t k => XS.i2l X3.here hx rfl d66 rfl k) ?_
   refine zq 70 [.long 4294967295, .long (x1.toInt64)] (fun t k => X3.ldc2Long hx hown (mvT hZ (tw hw 257 rfl)) (g := (mkF m 67 #[rv a, rv b, rv ma, iv 2, rv mc, iv 2, iv 1, iv x1, iv y1] [.long (x1.toInt64)])) rfl d67 _ k) ?_
   refine zq 71 [.long ((x1.toInt64) &&& (4294967295 : Int64))] (fun t k => XS.land X3.here hx rfl d70 rfl k) ?_
   refine zI2 X3 hx d71 rfl 73 rfl ?_
   refine zq 74 [.long (y1.toInt64), .long ((x1.toInt64) &&& (4294967295 : Int64))] (fun t k => XS.i2l X3.here hx rfl d73 rfl k) ?_
   refine zq 77 [.long 4294967295, .long (y1.toInt64), .long ((x1.toInt64) &&& (4294967295 : Int64))] (fun t k => X3.ldc2Long hx hown (mvT hZ (tw hw 257 rfl)) (g := (mkF m 74 #[rv a, rv b, rv ma, iv 2, rv mc, iv 2, iv 1, iv x1, iv y1] [.long (y1.toInt64), .long ((x1.toInt64) &&& (4294967295 : Int64))])) rfl d74 _ k) ?_
   refine zq 78 [.long ((y1.toInt64) &&& (4294967295 : Int64)), .long ((x1.toInt64) &&& (4294967295 : Int64))] (fun t k => XS.land X3.here hx rfl d77 rfl k) ?_
   refine zq 79 [.int (lcmpW ((x1.toInt64) &&& (4294967295 : Int64)) ((y1.toInt64) &&& (4294967295 : Int64)))] (fun t k => XS.lcmp X3.here hx rfl d78 rfl k) ?_
   by_cases c13 : (lcmpW ((x1.toInt64) &&& (4294967295 : Int64)) ((y1.toInt64) &&& (4294967295 : Int64))) < (0 : Int32)
   ·refine zN X3 hx d79 ((if0 _ _).trans (tlt c13).2.1) 82 rfl ?_
    refine zK X3 hx d82 (-1 : Int32) rfl 83 rfl ?_
    refine zG X3 hx d83 87 (by decide) ?_
    exact own_finI X3 hx hlk (t := .int) hre (by simp) rfl d87 e3 ⟨(-1 : Int32), rfl, N0, rfl, (cm2_lo c7 (cm_lt c13))⟩ (by decide) (by decide)
   ·refine zY X3 hx d79 ((if0 _ _).trans (flt c13).2.1) 86 (by decide) ?_
    refine zK X3 hx d86 1 rfl 87 rfl ?_
    exact own_finI X3 hx hlk (t := .int) hre (by simp) rfl d87 e3 ⟨(1 : Int32), rfl, N0, rfl, (cm2_lo c7 (cm_gt c11 c13))⟩ (by decide) (by decide)
 ·refine zCN X3 hx d61 (feq c7).1 64 rfl ?_
  refine zI2 X3 hx d64 rfl 66 rfl ?_
  refine zq 67 [.long (x.toInt64)] (fun t k => XS.i2l X3.here hx rfl d66 rfl k) ?_
  refine zq 70 [.long 4294967295, .long (x.toInt64)] (fun t k => X3.ldc2Long hx hown (mvT hZ (tw hw 257 rfl)) (g := (mkF m 67 #[rv a, rv b, rv ma, iv 2, rv mc, iv 2, iv 0, iv x, iv y] [.long (x.toInt64)])) rfl d67 _ k) ?_
  refine zq 71 [.long ((x.toInt64) &&& (4294967295 : Int64))] (fun t k => XS.land X3.here hx rfl d70 rfl k) ?_
  refine zI2 X3 hx d71 rfl 73 rfl ?_
  refine zq 74 [.long (y.toInt64), .long ((x.toInt64) &&& (4294967295 : Int64))] (fun t k => XS.i2l X3.here hx rfl d73 rfl k) ?_
  refine zq 77 [.long 4294967295, .long (y.toInt64), .long ((x.toInt64) &&& (4294967295 : Int64))] (fun t k => X3.ldc2Long hx hown (mvT hZ (tw hw 257 rfl)) (g := (mkF m 74 #[rv a, rv b, rv ma, iv 2, rv mc, iv 2, iv 0, iv x, iv y] [.long (y.toInt64), .long ((x.toInt64) &&& (4294967295 : Int64))])) rfl d74 _ k) ?_
  refine zq 78 [.long ((y.toInt64) &&& (4294967295 : Int64)), .long ((x.toInt64) &&& (4294967295 : Int64))] (fun t k => XS.land X3.here hx rfl d77 rfl k) ?_
  refine zq 79 [.int (lcmpW ((x.toInt64) &&& (4294967295 : Int64)) ((y.toInt64) &&& (4294967295 : Int64)))] (fun t k => XS.lcmp X3.here hx rfl d78 rfl k) ?_
  by_cases c14 : (lcmpW ((x.toInt64) &&& (4294967295 : Int64)) ((y.toInt64) &&& (4294967295 : Int64))) < (0 : Int32)
  ·refine zN X3 hx d79 ((if0 _ _).trans (tlt c14).2.1) 82 rfl ?_
   refine zK X3 hx d82 (-1 : Int32) rfl 83 rfl ?_
   refine zG X3 hx d83 87 (by decide) ?_
   exact own_finI X3 hx hlk (t := .int) hre (by simp) rfl d87 e3 ⟨(-1 : Int32), rfl, N0, rfl, (cm2_hi c7 (cm_lt c14))⟩ (by decide) (by decide)
  ·refine zY X3 hx d79 ((if0 _ _).trans (flt c14).2.1) 86 (by decide) ?_
   refine zK X3 hx d86 1 rfl 87 rfl ?_
   exact own_finI X3 hx hlk (t := .int) hre (by simp) rfl d87 e3 ⟨(1 : Int32), rfl, N0, rfl, (cm2_hi c7 (cm_gt c7 c14))⟩ (by decide) (by decide)
def QrmCt (Z : State) (a : Addr) (b : Addr) (va : Int) (vb : Int) (h0 : Heap) (n0 : Nat) (v : Option Value) (h : Heap) (L : List Loc) : Prop := ∃ c : Int32, v = some (.int c) ∧ Fr n0 L ∧ h = h0 ∧ (Cm c va vb)
abbrev RrmCt : Room := { frames := 1, cells := 0, slots := 0, locals := 20 }
theorem rmCt (l : Launch) (Z : State) (a0 : Array Value) (hw : ∀ d ∈ tables_1, d.before a0 Z = true) (ws : List Jvm.Cond) (a : Addr) (b : Addr) (va : Int) (vb : Int) (h0 : Heap) (n0 : Nat) (Z0 : n0 ≤ h0.size)  (p_BI_a : BI Z h0 a va) (p_BI_b : BI Z h0 b vb) : Mf l Z Nm42 jdk_2097_method_121_code 2 (Option.some Jvm.ClassFile.FieldType.int) ws RrmCt #[(.ref a), (.ref b)] h0 (QrmCt Z a b va vb h0 n0) := by
 refine own_entry (plainFor_of_name pn_java_math_BigInteger) #[rv a, rv b] (fun _ => rfl) fun p e s m below meth c s₁ hx hby hml hown hnm hlk hre hZ X0 e0 => ?_
 have N0 := Fr.nil n0
 obtain ⟨d0, d1, d4, d5, d8, d11, d12, d15, d40, d41, d42, d45, d48, d49, d50, d53, d56, d57, d58, d59, d62, d63, d66, d69, d70, d73, d74, -⟩ := D_42 hby
 rcases id p_BI_a with ⟨m1, km1, Eb1, Fm1, Em1, (⟨Fs1, Ar1, hv1⟩ | ⟨w1, hn1, Ar1, (⟨Fs1, hv1⟩ | ⟨Fs1, hv1⟩)⟩ | ⟨w1, u1, hn1, Ar1, (⟨Fs1, hv1⟩ | ⟨Fs1, hv1⟩)⟩)⟩
 ·refine zR X0 hx d0 rfl rfl 1 rfl ?_
  rcases id p_BI_b with ⟨m2, km2, Eb2, Fm2, Em2, (⟨Fs2, Ar2, hv2⟩ | ⟨w2, hn2, Ar2, (⟨Fs2, hv2⟩ | ⟨Fs2, hv2⟩)⟩ | ⟨w2, u2, hn2, Ar2, (⟨Fs2, hv2⟩ | ⟨Fs2, hv2⟩)⟩)⟩
  ·refine zP X0 hx hZ hown (tw hw 47 rfl) e0 Fs1 d1 4 rfl fun T3 X3 e3 => ?_
   refine zR X3 hx d4 rfl rfl 5 rfl ?_
   refine zP X3 hx hZ hown (tw hw 47 rfl) e3 Fs2 d5 8 rfl fun T4 X4 e4 => ?_
   refine zCN X4 hx d8 (teq (by decide : ((0 : Int32) = (0 : Int32)))).2 11 rfl ?_
   refine zR X4 hx d11 rfl rfl 12 rfl ?_
   refine zP X4 hx hZ hown (tw hw 47 rfl) e4 Fs1 d12 15 rfl fun T5 X5 e5 => ?_
   refine zq 56 [] (fun t k => X5.lookupswitchMiss hx (g := (mkF m 15 #[rv a, rv b] [.int 0])) rfl rfl d15 (by decide) (by decide) (show (0 : Int) ≤ 15 + 41 from by decide) t k) ?_
   refine zK X5 hx d56 0 rfl 57 rfl ?_
   exact own_finI X5 hx hlk (t := .int) hre (by simp) rfl d57 e5 ⟨(0 : Int32), rfl, N0, rfl, (Or.inr (Or.inl ⟨rfl, by omega⟩))⟩ (by decide) (by decide)
  ·refine zP X0 hx hZ hown (tw hw 47 rfl) e0 Fs1 d1 4 rfl fun T6 X6 e6 => ?_
   refine zR X6 hx d4 rfl rfl 5 rfl ?_
   refine zP X6 hx hZ hown (tw hw 47 rfl) e6 Fs2 d5 8 rfl fun T7 X7 e7 => ?_
   refine zCY X7 hx d8 (feq (by decide : ¬ ((0 : Int32) = (1 : Int32)))).2 58 (by decide) ?_
   refine zR X7 hx d58 rfl rfl 59 rfl ?_
   refine zP X7 hx hZ hown (tw hw 47 rfl) e7 Fs1 d59 62 rfl fun T8 X8 e8 => ?_
   refine zR X8 hx d62 rfl rfl 63 rfl ?_
   refine zP X8 hx hZ hown (tw hw 47 rfl) e8 Fs2 d63 66 rfl fun T9 X9 e9 => ?_
   refine zCY X9 hx d66 (flt (by decide : ¬ ((1 : Int32) < (0 : Int32)))).2.2.2 73 (by decide) ?_
   refine zK X9 hx d73 (-1 : Int32) rfl 74 rfl ?_
   exact own_finI X9 hx hlk (t := .int) hre (by simp) rfl d74 e9 ⟨(-1 : Int32), rfl, N0, rfl, (Or.inl ⟨rfl, by have qn_b := UI_ne hn2; have l_w2 := UI_lt w2; omega⟩)⟩ (by decide) (by decide)
  ·refine zP X0 hx hZ hown (tw hw 47 rfl) e0 Fs1 d1 4 rfl fun T10 X10 e10 => ?_
   refine zR X10 hx d4 rfl rfl 5 rfl ?_
   refine zP X10 hx hZ hown (tw hw 47 rfl) e10 Fs2 d5 8 rfl fun T11 X11 e11 => ?_
   refine zCY X11 hx d8 (feq (by decide : ¬ ((0 : Int32) = (-1 : Int32)))).2 58 (by decide) ?_
   refine zR X11 hx d58 rfl rfl 59 rfl ?_
   refine zP X11 hx hZ hown (tw hw 47 rfl) e11 Fs1 d59 62 rfl fun T12 X12 e12 => ?_
   refine zR X12 hx d62 rfl rfl 63 rfl ?_
   refine zP X12 hx hZ hown (tw hw 47 rfl) e12 Fs2 d63 66 rfl fun T13 X13 e13 => ?_
   refine zCN X13 hx d66 (tlt (by decide : ((-1 : Int32) < (0 : Int32)))).2.2.2 69 rfl ?_
   refine zK X13 hx d69 1 rfl 70 rfl ?_
   refine zG X13 hx d70 74 (by decide) ?_
   exact own_finI X13 hx hlk (t := .int) hre (by simp) rfl d74 e13 ⟨(1 : Int32), rfl, N0, rfl, (Or.inr (Or.inr ⟨rfl, by have qn_b := UI_ne hn2; have l_w2 := UI_lt w2; omega⟩))⟩ (by decide) (by decide)
  ·refine zP X0 hx hZ hown (tw hw 47 rfl) e0 Fs1 d1 4 rfl fun T14 X14 e14 => ?_
   refine zR X14 hx d4 rfl rfl 5 rfl ?_
   refine zP X14 hx hZ hown (tw hw 47 rfl) e14 Fs2 d5 8 rfl fun T15 X15 e15 => ?_
   refine zCY X15 hx d8 (feq (by decide : ¬ ((0 : Int32) = (1 : Int32)))).2 58 (by decide) ?_
   refine zR X15 hx d58 rfl rfl 59 rfl ?_
   refine zP X15 hx hZ hown (tw hw 47 rfl) e15 Fs1 d59 62 rfl fun T16 X16 e16 => ?_
   refine zR X16 hx d62 rfl rfl 63 rfl ?_
   refine zP X16 hx hZ hown (tw hw 47 rfl) e16 Fs2 d63 66 rfl fun T17 X17 e17 => ?_
   refine zCY X17 hx d66 (flt (by decide : ¬ ((1 : Int32) < (0 : Int32)))).2.2.2 73 (by decide) ?_
   refine zK X17 hx d73 (-1 : Int32) rfl 74 rfl ?_
   exact own_finI X17 hx hlk (t := .int) hre (by simp) rfl d74 e17 ⟨(-1 : Int32), rfl, N0, rfl, (Or.inl ⟨rfl, by have qn_b := UI_ne hn2; have l_w2 := UI_lt w2; have l_u2 := UI_lt u2; omega⟩)⟩ (by decide) (by decide)
  ·refine zP X0 hx hZ hown (tw hw 47 rfl) e0 Fs1 d1 4 rfl fun T18 X18 e18 => ?_
   refine zR X18 hx d4 rfl rfl 5 rfl ?_
   refine zP X18 hx hZ hown (tw hw 47 rfl) e18 Fs2 d5 8 rfl fun T19 X19 e19 => ?_
   refine zCY X19 hx d8 (feq (by decide : ¬ ((0 : Int32) = (-1 : Int32)))).2 58 (by decide) ?_
   refine zR X19 hx d58 rfl rfl 59 rfl ?_
   refine zP X19 hx hZ hown (tw hw 47 rfl) e19 Fs1 d59 62 rfl fun T20 X20 e20 => ?_
   refine zR X20 hx d62 rfl rfl 63 rfl ?_
   refine zP X20 hx hZ hown (tw hw 47 rfl) e20 Fs2 d63 66 rfl fun T21 X21 e21 => ?_
   refine zCN X21 hx d66 (tlt (by decide : ((-1 : Int32) < (0 : Int32)))).2.2.2 69 rfl ?_
   refine zK X21 hx d69 1 rfl 70 rfl ?_
   refine zG X21 hx d70 74 (by decide) ?_
   exact own_finI X21 hx hlk (t := .int) hre (by simp) rfl d74 e21 ⟨(1 : Int32), rfl, N0, rfl, (Or.inr (Or.inr ⟨rfl, by have qn_b := UI_ne hn2; have l_w2 := UI_lt w2; have l_u2 := UI_lt u2; omega⟩))⟩ (by decide) (by decide)
 ·refine zR X0 hx d0 rfl rfl 1 rfl ?_
  rcases id p_BI_b with ⟨m22, km22, Eb22, Fm22, Em22, (⟨Fs22, Ar22, hv22⟩ | ⟨w22, hn22, Ar22, (⟨Fs22, hv22⟩ | ⟨Fs22, hv22⟩)⟩ | ⟨w22, u22, hn22, Ar22, (⟨Fs22, hv22⟩ | ⟨Fs22, hv22⟩)⟩)⟩
  ·refine zP X0 hx hZ hown (tw hw 47 rfl) e0 Fs1 d1 4 rfl fun T23 X23 e23 => ?_
   refine zR X23 hx d4 rfl rfl 5 rfl ?_
   refine zP X23 hx hZ hown (tw hw 47 rfl) e23 Fs22 d5 8 rfl fun T24 X24 e24 => ?_
   refine zCY X24 hx d8 (feq (by decide : ¬ ((1 : Int32) = (0 : Int32)))).2 58 (by decide) ?_
   refine zR X24 hx d58 rfl rfl 59 rfl ?_
   refine zP X24 hx hZ hown (tw hw 47 rfl) e24 Fs1 d59 62 rfl fun T25 X25 e25 => ?_
   refine zR X25 hx d62 rfl rfl 63 rfl ?_
   refine zP X25 hx hZ hown (tw hw 47 rfl) e25 Fs22 d63 66 rfl fun T26 X26 e26 => ?_
   refine zCN X26 hx d66 (tlt (by decide : ((0 : Int32) < (1 : Int32)))).2.2.2 69 rfl ?_
   refine zK X26 hx d69 1 rfl 70 rfl ?_
   refine zG X26 hx d70 74 (by decide) ?_
   exact own_finI X26 hx hlk (t := .int) hre (by simp) rfl d74 e26 ⟨(1 : Int32), rfl, N0, rfl, (Or.inr (Or.inr ⟨rfl, by have qn_a := UI_ne hn1; have l_w1 := UI_lt w1; omega⟩))⟩ (by decide) (by decide)
  ·refine zP X0 hx hZ hown (tw hw 47 rfl) e0 Fs1 d1 4 rfl fun T27 X27 e27 => ?_
   refine zR X27 hx d4 rfl rfl 5 rfl ?_
   refine zP X27 hx hZ hown (tw hw 47 rfl) e27 Fs22 d5 8 rfl fun T28 X28 e28 => ?_
   refine zCN X28 hx d8 (teq (by decide : ((1 : Int32) = (1 : Int32)))).2 11 rfl ?_
   refine zR X28 hx d11 rfl rfl 12 rfl ?_
   refine zP X28 hx hZ hown (tw hw 47 rfl) e28 Fs1 d12 15 rfl fun T29 X29 e29 => ?_
   refine zq 40 [] (fun t k => X29.lookupswitchHit hx (g := (mkF m 15 #[rv a, rv b] [.int 1])) rfl rfl d15 (by decide) (a := 1) (off := 25) (by decide) (show (0 : Int) ≤ 15 + 25 from by decide) t k) ?_
   refine zR X29 hx d40 rfl rfl 41 rfl ?_
   refine zR X29 hx d41 rfl rfl 42 rfl ?_
   refine zCV X29 hx hZ hml hown (tw hw 252 rfl) (tw hw 253 rfl) (tw hw 13 rfl) (tw hw 256 rfl) (tw hw 255 rfl) (tw hw 254 rfl) (rmCm11 l Z a0 hw [] a b m1 m22 km1 km22 w1 w22 h0 n0 Z0 Fm1 Ar1 Fm22 Ar22) 0 (by decide) a [] rfl rfl (lenOf pd_23 rfl) rfl (Nat.le_of_eq rfl) e29 Eb1 d42 45 rfl fun T30 L30 v30 X30 ⟨Lc30, hQ30, l30⟩ => ?_
   obtain ⟨c_30, rfl, Nq30, eh30, f30_0⟩ := hQ30
   have N30 := own_frApp N0 Nq30 l30
   refine zx [.int c_30] rfl ?_
   refine zG X30 hx d45 57 (by decide) ?_
   exact own_finI X30 hx hlk (t := .int) hre (by simp) rfl d57 eh30 ⟨c_30, rfl, N30, rfl, (Cm.of f30_0 (fun q => by omega) (fun q => by omega) (fun q => by omega))⟩ (by decide) (by decide)
  ·refine zP X0 hx hZ hown (tw hw 47 rfl) e0 Fs1 d1 4 rfl fun T31 X31 e31 => ?_
   refine zR X31 hx d4 rfl rfl 5 rfl ?_
   refine zP X31 hx hZ hown (tw hw 47 rfl) e31 Fs22 d5 8 rfl fun T32 X32 e32 => ?_
   refine zCY X32 hx d8 (feq (by decide : ¬ ((1 : Int32) = (-1 : Int32)))).2 58 (by decide) ?_
   refine zR X32 hx d58 rfl rfl 59 rfl ?_
   refine zP X32 hx hZ hown (tw hw 47 rfl) e32 Fs1 d59 62 rfl fun T33 X33 e33 => ?_
   refine zR X33 hx d62 rfl rfl 63 rfl ?_
   refine zP X33 hx hZ hown (tw hw 47 rfl) e33 Fs22 d63 66 rfl fun T34 X34 e34 => ?_
   refine zCN X34 hx d66 (tlt (by decide : ((-1 : Int32) < (1 : Int32)))).2.2.2 69 rfl ?_
   refine zK X34 hx d69 1 rfl 70 rfl ?_
   refine zG X34 hx d70 74 (by decide) ?_
   exact own_finI X34 hx hlk (t := .int) hre (by simp) rfl d74 e34 ⟨(1 : Int32), rfl, N0, rfl, (Or.inr (Or.inr ⟨rfl, by have qn_a := UI_ne hn1; have l_w1 := UI_lt w1; have qn_b := UI_ne hn22; have l_w22 := UI_lt w22; omega⟩))⟩ (by decide) (by decide)
  ·refine zP X0 hx hZ hown (tw hw 47 rfl) e0 Fs1 d1 4 rfl fun T35 X35 e35 => ?_
   refine zR X35 hx d4 rfl rfl 5 rfl ?_
   refine zP X35 hx hZ hown (tw hw 47 rfl) e35 Fs22 d5 8 rfl fun T36 X36 e36 => ?_
   refine zCN X36 hx d8 (teq (by decide : ((1 : Int32) = (1 : Int32)))).2 11 rfl ?_
   refine zR X36 hx d11 rfl rfl 12 rfl ?_
   refine zP X36 hx hZ hown (tw hw 47 rfl) e36 Fs1 d12 15 rfl fun T37 X37 e37 => ?_
   refine zq 40 [] (fun t k => X37.lookupswitchHit hx (g := (mkF m 15 #[rv a, rv b] [.int 1])) rfl rfl d15 (by decide) (a := 1) (off := 25) (by decide) (show (0 : Int) ≤ 15 + 25 from by decide) t k) ?_
   refine zR X37 hx d40 rfl rfl 41 rfl ?_
   refine zR X37 hx d41 rfl rfl 42 rfl ?_
   refine zCV X37 hx hZ hml hown (tw hw 252 rfl) (tw hw 253 rfl) (tw hw 13 rfl) (tw hw 256 rfl) (tw hw 255 rfl) (tw hw 254 rfl) (rmCm12 l Z a0 hw [] a b m1 m22 km1 km22 w1 w22 u22 h0 n0 Z0 Fm1 Ar1 Fm22 Ar22) 0 (by decide) a [] rfl rfl (lenOf pd_23 rfl) rfl (Nat.le_of_eq rfl) e37 Eb1 d42 45 rfl fun T38 L38 v38 X38 ⟨Lc38, hQ38, l38⟩ => ?_
   obtain ⟨rfl, Nq38, eh38⟩ := hQ38
   have N38 := own_frApp N0 Nq38 l38
   refine zx [.int (-1)] rfl ?_
   refine zG X38 hx d45 57 (by decide) ?_
   exact own_finI X38 hx hlk (t := .int) hre (by simp) rfl d57 eh38 ⟨(-1 : Int32), rfl, N38, rfl, (Or.inl ⟨rfl, by have qn_a := UI_ne hn1; have l_w1 := UI_lt w1; have qn_b := UI_ne hn22; have l_w22 := UI_lt w22; have l_u22 := UI_lt u22; omega⟩)⟩ (by decide) (by decide)
  ·refine zP X0 hx hZ hown (tw hw 47 rfl) e0 Fs1 d1 4 rfl fun T39 X39 e39 => ?_
   refine zR X39 hx d4 rfl rfl 5 rfl ?_
   refine zP X39 hx hZ hown (tw hw 47 rfl) e39 Fs22 d5 8 rfl fun T40 X40 e40 => ?_
   refine zCY X40 hx d8 (feq (by decide : ¬ ((1 : Int32) = (-1 : Int32)))).2 58 (by decide) ?_
   refine zR X40 hx d58 rfl rfl 59 rfl ?_
   refine zP X40 hx hZ hown (tw hw 47 rfl) e40 Fs1 d59 62 rfl fun T41 X41 e41 => ?_
   refine zR X41 hx d62 rfl rfl 63 rfl ?_
   refine zP X41 hx hZ hown (tw hw 47 rfl) e41 Fs22 d63 66 rfl fun T42 X42 e42 => ?_
   refine zCN X42 hx d66 (tlt (by decide : ((-1 : Int32) < (1 : Int32)))).2.2.2 69 rfl ?_
   refine zK X42 hx d69 1 rfl 70 rfl ?_
   refine zG X42 hx d70 74 (by decide) ?_
   exact own_finI X42 hx hlk (t := .int) hre (by simp) rfl d74 e42 ⟨(1 : Int32), rfl, N0, rfl, (Or.inr (Or.inr ⟨rfl, by have qn_a := UI_ne hn1; have l_w1 := UI_lt w1; have qn_b := UI_ne hn22; have l_w22 := UI_lt w22; have l_u22 := UI_lt u22; omega⟩))⟩ (by decide) (by decide)
 ·refine zR X0 hx d0 rfl rfl 1 rfl ?_
  rcases id p_BI_b with ⟨m43, km43, Eb43, Fm43, Em43, (⟨Fs43, Ar43, hv43⟩ | ⟨w43, hn43, Ar43, (⟨Fs43, hv43⟩ | ⟨Fs43, hv43⟩)⟩ | ⟨w43, u43, hn43, Ar43, (⟨Fs43, hv43⟩ | ⟨Fs43, hv43⟩)⟩)⟩
  ·refine zP X0 hx hZ hown (tw hw 47 rfl) e0 Fs1 d1 4 rfl fun T44 X44 e44 => ?_
   refine zR X44 hx d4 rfl rfl 5 rfl ?_
   refine zP X44 hx hZ hown (tw hw 47 rfl) e44 Fs43 d5 8 rfl fun T45 X45 e45 => ?_
   refine zCY X45 hx d8 (feq (by decide : ¬ ((-1 : Int32) = (0 : Int32)))).2 58 (by decide) ?_
   refine zR X45 hx d58 rfl rfl 59 rfl ?_
   refine zP X45 hx hZ hown (tw hw 47 rfl) e45 Fs1 d59 62 rfl fun T46 X46 e46 => ?_
   refine zR X46 hx d62 rfl rfl 63 rfl ?_
   refine zP X46 hx hZ hown (tw hw 47 rfl) e46 Fs43 d63 66 rfl fun T47 X47 e47 => ?_
   refine zCY X47 hx d66 (flt (by decide : ¬ ((0 : Int32) < (-1 : Int32)))).2.2.2 73 (by decide) ?_
   refine zK X47 hx d73 (-1 : Int32) rfl 74 rfl ?_
   exact own_finI X47 hx hlk (t := .int) hre (by simp) rfl d74 e47 ⟨(-1 : Int32), rfl, N0, rfl, (Or.inl ⟨rfl, by have qn_a := UI_ne hn1; have l_w1 := UI_lt w1; omega⟩)⟩ (by decide) (by decide)
  ·refine zP X0 hx hZ hown (tw hw 47 rfl) e0 Fs1 d1 4 rfl fun T48 X48 e48 => ?_
   refine zR X48 hx d4 rfl rfl 5 rfl ?_
   refine zP X48 hx hZ hown (tw hw 47 rfl) e48 Fs43 d5 8 rfl fun T49 X49 e49 => ?_
   refine zCY X49 hx d8 (feq (by decide : ¬ ((-1 : Int32) = (1 : Int32)))).2 58 (by decide) ?_
   refine zR X49 hx d58 rfl rfl 59 rfl ?_
   refine zP X49 hx hZ hown (tw hw 47 rfl) e49 Fs1 d59 62 rfl fun T50 X50 e50 => ?_
   refine zR X50 hx d62 rfl rfl 63 rfl ?_
   refine zP X50 hx hZ hown (tw hw 47 rfl) e50 Fs43 d63 66 rfl fun T51 X51 e51 => ?_
   refine zCY X51 hx d66 (flt (by decide : ¬ ((1 : Int32) < (-1 : Int32)))).2.2.2 73 (by decide) ?_
   refine zK X51 hx d73 (-1 : Int32) rfl 74 rfl ?_
   exact own_finI X51 hx hlk (t := .int) hre (by simp) rfl d74 e51 ⟨(-1 : Int32), rfl, N0, rfl, (Or.inl ⟨rfl, by have qn_a := UI_ne hn1; have l_w1 := UI_lt w1; have qn_b := UI_ne hn43; have l_w43 := UI_lt w43; omega⟩)⟩ (by decide) (by decide)
  ·refine zP X0 hx hZ hown (tw hw 47 rfl) e0 Fs1 d1 4 rfl fun T52 X52 e52 => ?_
   refine zR X52 hx d4 rfl rfl 5 rfl ?_
   refine zP X52 hx hZ hown (tw hw 47 rfl) e52 Fs43 d5 8 rfl fun T53 X53 e53 => ?_
   refine zCN X53 hx d8 (teq (by decide : ((-1 : Int32) = (-1 : Int32)))).2 11 rfl ?_
   refine zR X53 hx d11 rfl rfl 12 rfl ?_
   refine zP X53 hx hZ hown (tw hw 47 rfl) e53 Fs1 d12 15 rfl fun T54 X54 e54 => ?_
   refine zq 48 [] (fun t k => X54.lookupswitchHit hx (g := (mkF m 15 #[rv a, rv b] [.int (-1)])) rfl rfl d15 (by decide) (a := (-1)) (off := 33) (by decide) (show (0 : Int) ≤ 15 + 33 from by decide) t k) ?_
   refine zR X54 hx d48 rfl rfl 49 rfl ?_
   refine zR X54 hx d49 rfl rfl 50 rfl ?_
   refine zCV X54 hx hZ hml hown (tw hw 252 rfl) (tw hw 253 rfl) (tw hw 13 rfl) (tw hw 256 rfl) (tw hw 255 rfl) (tw hw 254 rfl) (rmCm11 l Z a0 hw [] b a m43 m1 km43 km1 w43 w1 h0 n0 Z0 Fm43 Ar43 Fm1 Ar1) 0 (by decide) b [] rfl rfl (lenOf pd_23 rfl) rfl (Nat.le_of_eq rfl) e54 Eb43 d50 53 rfl fun T55 L55 v55 X55 ⟨Lc55, hQ55, l55⟩ => ?_
   obtain ⟨c_55, rfl, Nq55, eh55, f55_0⟩ := hQ55
   have N55 := own_frApp N0 Nq55 l55
   refine zx [.int c_55] rfl ?_
   refine zG X55 hx d53 57 (by decide) ?_
   exact own_finI X55 hx hlk (t := .int) hre (by simp) rfl d57 eh55 ⟨c_55, rfl, N55, rfl, (Cm.of f55_0 (fun q => by omega) (fun q => by omega) (fun q => by omega))⟩ (by decide) (by decide)
  ·refine zP X0 hx hZ hown (tw hw 47 rfl) e0 Fs1 d1 4 rfl fun T56 X56 e56 => ?_
   refine zR X56 hx d4 rfl rfl 5 rfl ?_
   refine zP X56 hx hZ hown (tw hw 47 rfl) e56 Fs43 d5 8 rfl fun T57 X57 e57 => ?_
   refine zCY X57 hx d8 (feq (by decide : ¬ ((-1 : Int32) = (1 : Int32)))).2 58 (by decide) ?_
   refine zR X57 hx d58 rfl rfl 59 rfl ?_
   refine zP X57 hx hZ hown (tw hw 47 rfl) e57 Fs1 d59 62 rfl fun T58 X58 e58 => ?_
   refine zR X58 hx d62 rfl rfl 63 rfl ?_
   refine zP X58 hx hZ hown (tw hw 47 rfl) e58 Fs43 d63 66 rfl fun T59 X59 e59 => ?_
   refine zCY X59 hx d66 (flt (by decide : ¬ ((1 : Int32) < (-1 : Int32)))).2.2.2 73 (by decide) ?_
   refine zK X59 hx d73 (-1 : Int32) rfl 74 rfl ?_
   exact own_finI X59 hx hlk (t := .int) hre (by simp) rfl d74 e59 ⟨(-1 : Int32), rfl, N0, rfl, (Or.inl ⟨rfl, by have qn_a := UI_ne hn1; have l_w1 := UI_lt w1; have qn_b := UI_ne hn43; have l_w43 := UI_lt w43; have l_u43 := UI_lt u43; omega⟩)⟩ (by decide) (by decide)
  ·refine zP X0 hx hZ hown (tw hw 47 rfl) e0 Fs1 d1 4 rfl fun T60 X60 e60 => ?_
   refine zR X60 hx d4 rfl rfl 5 rfl ?_
   refine zP X60 hx hZ hown (tw hw 47 rfl) e60 Fs43 d5 8 rfl fun T61 X61 e61 => ?_
   refine zCN X61 hx d8 (teq (by decide : ((-1 : Int32) = (-1 : Int32)))).2 11 rfl ?_
   refine zR X61 hx d11 rfl rfl 12 rfl ?_
   refine zP X61 hx hZ hown (tw hw 47 rfl) e61 Fs1 d12 15 rfl fun T62 X62 e62 => ?_
   refine zq 48 [] (fun t k => X62.lookupswitchHit hx (g := (mkF m 15 #[rv a, rv b] [.int (-1)])) rfl rfl d15 (by decide) (a := (-1)) (off := 33) (by decide) (show (0 : Int) ≤ 15 + 33 from by decide) t k) ?_
   refine zR X62 hx d48 rfl rfl 49 rfl ?_
   refine zR X62 hx d49 rfl rfl 50 rfl ?_
   refine zCV X62 hx hZ hml hown (tw hw 252 rfl) (tw hw 253 rfl) (tw hw 13 rfl) (tw hw 256 rfl) (tw hw 255 rfl) (tw hw 254 rfl) (rmCm21 l Z a0 hw [] b a m43 m1 km43 km1 w43 u43 w1 h0 n0 Z0 Fm43 Ar43 Fm1 Ar1) 0 (by decide) b [] rfl rfl (lenOf pd_23 rfl) rfl (Nat.le_of_eq rfl) e62 Eb43 d50 53 rfl fun T63 L63 v63 X63 ⟨Lc63, hQ63, l63⟩ => ?_
   obtain ⟨rfl, Nq63, eh63⟩ := hQ63
   have N63 := own_frApp N0 Nq63 l63
   refine zx [.int 1] rfl ?_
   refine zG X63 hx d53 57 (by decide) ?_
   exact own_finI X63 hx hlk (t := .int) hre (by simp) rfl d57 eh63 ⟨(1 : Int32), rfl, N63, rfl, (Or.inr (Or.inr ⟨rfl, by have qn_a := UI_ne hn1; have l_w1 := UI_lt w1; have qn_b := UI_ne hn43; have l_w43 := UI_lt w43; have l_u43 := UI_lt u43; omega⟩))⟩ (by decide) (by decide)
 ·refine zR X0 hx d0 rfl rfl 1 rfl ?_
  rcases id p_BI_b with ⟨m64, km64, Eb64, Fm64, Em64, (⟨Fs64, Ar64, hv64⟩ | ⟨w64, hn64, Ar64, (⟨Fs64, hv64⟩ | ⟨Fs64, hv64⟩)⟩ | ⟨w64, u64, hn64, Ar64, (⟨Fs64, hv64⟩ | ⟨Fs64, hv64⟩)⟩)⟩
  ·refine zP X0 hx hZ hown (tw hw 47 rfl) e0 Fs1 d1 4 rfl fun T65 X65 e65 => ?_
   refine zR X65 hx d4 rfl rfl 5 rfl ?_
   refine zP X65 hx hZ hown (tw hw 47 rfl) e65 Fs64 d5 8 rfl fun T66 X66 e66 => ?_
   refine zCY X66 hx d8 (feq (by decide : ¬ ((1 : Int32) = (0 : Int32)))).2 58 (by decide) ?_
   refine zR X66 hx d58 rfl rfl 59 rfl ?_
   refine zP X66 hx hZ hown (tw hw 47 rfl) e66 Fs1 d59 62 rfl fun T67 X67 e67 => ?_
   refine zR X67 hx d62 rfl rfl 63 rfl ?_
   refine zP X67 hx hZ hown (tw hw 47 rfl) e67 Fs64 d63 66 rfl fun T68 X68 e68 => ?_
   refine zCN X68 hx d66 (tlt (by decide : ((0 : Int32) < (1 : Int32)))).2.2.2 69 rfl ?_
   refine zK X68 hx d69 1 rfl 70 rfl ?_
   refine zG X68 hx d70 74 (by decide) ?_
   exact own_finI X68 hx hlk (t := .int) hre (by simp) rfl d74 e68 ⟨(1 : Int32), rfl, N0, rfl, (Or.inr (Or.inr ⟨rfl, by have qn_a := UI_ne hn1; have l_w1 := UI_lt w1; have l_u1 := UI_lt u1; omega⟩))⟩ (by decide) (by decide)
  ·refine zP X0 hx hZ hown (tw hw 47 rfl) e0 Fs1 d1 4 rfl fun T69 X69 e69 => ?_
   refine zR X69 hx d4 rfl rfl 5 rfl ?_
   refine zP X69 hx hZ hown (tw hw 47 rfl) e69 Fs64 d5 8 rfl fun T70 X70 e70 => ?_
   refine zCN X70 hx d8 (teq (by decide : ((1 : Int32) = (1 : Int32)))).2 11 rfl ?_
   refine zR X70 hx d11 rfl rfl 12 rfl ?_
   refine zP X70 hx hZ hown (tw hw 47 rfl) e70 Fs1 d12 15 rfl fun T71 X71 e71 => ?_
   refine zq 40 [] (fun t k => X71.lookupswitchHit hx (g := (mkF m 15 #[rv a, rv b] [.int 1])) rfl rfl d15 (by decide) (a := 1) (off := 25) (by decide) (show (0 : Int) ≤ 15 + 25 from by decide) t k) ?_
   refine zR X71 hx d40 rfl rfl 41 rfl ?_
   refine zR X71 hx d41 rfl rfl 42 rfl ?_
   refine zCV X71 hx hZ hml hown (tw hw 252 rfl) (tw hw 253 rfl) (tw hw 13 rfl) (tw hw 256 rfl) (tw hw 255 rfl) (tw hw 254 rfl) (rmCm21 l Z a0 hw [] a b m1 m64 km1 km64 w1 u1 w64 h0 n0 Z0 Fm1 Ar1 Fm64 Ar64) 0 (by decide) a [] rfl rfl (lenOf pd_23 rfl) rfl (Nat.le_of_eq rfl) e71 Eb1 d42 45 rfl fun T72 L72 v72 X72 ⟨Lc72, hQ72, l72⟩ => ?_
   obtain ⟨rfl, Nq72, eh72⟩ := hQ72
   have N72 := own_frApp N0 Nq72 l72
   refine zx [.int 1] rfl ?_
   refine zG X72 hx d45 57 (by decide) ?_
   exact own_finI X72 hx hlk (t := .int) hre (by simp) rfl d57 eh72 ⟨(1 : Int32), rfl, N72, rfl, (Or.inr (Or.inr ⟨rfl, by have qn_a := UI_ne hn1; have l_w1 := UI_lt w1; have l_u1 := UI_lt u1; have qn_b := UI_ne hn64; have l_w64 := UI_lt w64; omega⟩))⟩ (by decide) (by decide)
  ·refine zP X0 hx hZ hown (tw hw 47 rfl) e0 Fs1 d1 4 rfl fun T73 X73 e73 => ?_
   refine zR X73 hx d4 rfl rfl 5 rfl ?_
   refine zP X73 hx hZ hown (tw hw 47 rfl) e73 Fs64 d5 8 rfl fun T74 X74 e74 => ?_
   refine zCY X74 hx d8 (feq (by decide : ¬ ((1 : Int32) = (-1 : Int32)))).2 58 (by decide) ?_
   refine zR X74 hx d58 rfl rfl 59 rfl ?_
   refine zP X74 hx hZ hown (tw hw 47 rfl) e74 Fs1 d59 62 rfl fun T75 X75 e75 => ?_
   refine zR X75 hx d62 rfl rfl 63 rfl ?_
   refine zP X75 hx hZ hown (tw hw 47 rfl) e75 Fs64 d63 66 rfl fun T76 X76 e76 => ?_
   refine zCN X76 hx d66 (tlt (by decide : ((-1 : Int32) < (1 : Int32)))).2.2.2 69 rfl ?_
   refine zK X76 hx d69 1 rfl 70 rfl ?_
   refine zG X76 hx d70 74 (by decide) ?_
   exact own_finI X76 hx hlk (t := .int) hre (by simp) rfl d74 e76 ⟨(1 : Int32), rfl, N0, rfl, (Or.inr (Or.inr ⟨rfl, by have qn_a := UI_ne hn1; have l_w1 := UI_lt w1; have l_u1 := UI_lt u1; have qn_b := UI_ne hn64; have l_w64 := UI_lt w64; omega⟩))⟩ (by decide) (by decide)
  ·refine zP X0 hx hZ hown (tw hw 47 rfl) e0 Fs1 d1 4 rfl fun T77 X77 e77 => ?_
   refine zR X77 hx d4 rfl rfl 5 rfl ?_
   refine zP X77 hx hZ hown (tw hw 47 rfl) e77 Fs64 d5 8 rfl fun T78 X78 e78 => ?_
   refine zCN X78 hx d8 (teq (by decide : ((1 : Int32) = (1 : Int32)))).2 11 rfl ?_
   refine zR X78 hx d11 rfl rfl 12 rfl ?_
   refine zP X78 hx hZ hown (tw hw 47 rfl) e78 Fs1 d12 15 rfl fun T79 X79 e79 => ?_
   refine zq 40 [] (fun t k => X79.lookupswitchHit hx (g := (mkF m 15 #[rv a, rv b] [.int 1])) rfl rfl d15 (by decide) (a := 1) (off := 25) (by decide) (show (0 : Int) ≤ 15 + 25 from by decide) t k) ?_
   refine zR X79 hx d40 rfl rfl 41 rfl ?_
   refine zR X79 hx d41 rfl rfl 42 rfl ?_
   refine zCV X79 hx hZ hml hown (tw hw 252 rfl) (tw hw 253 rfl) (tw hw 13 rfl) (tw hw 256 rfl) (tw hw 255 rfl) (tw hw 254 rfl) (rmCm22 l Z a0 hw [] a b m1 m64 km1 km64 w1 u1 w64 u64 h0 n0 Z0 Fm1 Ar1 Fm64 Ar64) 0 (by decide) a [] rfl rfl (lenOf pd_23 rfl) rfl (Nat.le_of_eq rfl) e79 Eb1 d42 45 rfl fun T80 L80 v80 X80 ⟨Lc80, hQ80, l80⟩ => ?_
   obtain ⟨c_80, rfl, Nq80, eh80, f80_0⟩ := hQ80
   have N80 := own_frApp N0 Nq80 l80
   refine zx [.int c_80] rfl ?_
   refine zG X80 hx d45 57 (by decide) ?_
   exact own_finI X80 hx hlk (t := .int) hre (by simp) rfl d57 eh80 ⟨c_80, rfl, N80, rfl, (Cm.of f80_0 (fun q => by omega) (fun q => by omega) (fun q => by omega))⟩ (by decide) (by decide)
  ·refine zP X0 hx hZ hown (tw hw 47 rfl) e0 Fs1 d1 4 rfl fun T81 X81 e81 => ?_
   refine zR X81 hx d4 rfl rfl 5 rfl ?_
   refine zP X81 hx hZ hown (tw hw 47 rfl) e81 Fs64 d5 8 rfl fun T82 X82 e82 => ?_
   refine zCY X82 hx d8 (feq (by decide : ¬ ((1 : Int32) = (-1 : Int32)))).2 58 (by decide) ?_
   refine zR X82 hx d58 rfl rfl 59 rfl ?_
   refine zP X82 hx hZ hown (tw hw 47 rfl) e82 Fs1 d59 62 rfl fun T83 X83 e83 => ?_
   refine zR X83 hx d62 rfl rfl 63 rfl ?_
   refine zP X83 hx hZ hown (tw hw 47 rfl) e83 Fs64 d63 66 rfl fun T84 X84 e84 => ?_
   refine zCN X84 hx d66 (tlt (by decide : ((-1 : Int32) < (1 : Int32)))).2.2.2 69 rfl ?_
   refine zK X84 hx d69 1 rfl 70 rfl ?_
   refine zG X84 hx d70 74 (by decide) ?_
   exact own_finI X84 hx hlk (t := .int) hre (by simp) rfl d74 e84 ⟨(1 : Int32), rfl, N0, rfl, (Or.inr (Or.inr ⟨rfl, by have qn_a := UI_ne hn1; have l_w1 := UI_lt w1; have l_u1 := UI_lt u1; have qn_b := UI_ne hn64; have l_w64 := UI_lt w64; have l_u64 := UI_lt u64; omega⟩))⟩ (by decide) (by decide)
 ·refine zR X0 hx d0 rfl rfl 1 rfl ?_
  rcases id p_BI_b with ⟨m85, km85, Eb85, Fm85, Em85, (⟨Fs85, Ar85, hv85⟩ | ⟨w85, hn85, Ar85, (⟨Fs85, hv85⟩ | ⟨Fs85, hv85⟩)⟩ | ⟨w85, u85, hn85, Ar85, (⟨Fs85, hv85⟩ | ⟨Fs85, hv85⟩)⟩)⟩
  ·refine zP X0 hx hZ hown (tw hw 47 rfl) e0 Fs1 d1 4 rfl fun T86 X86 e86 => ?_
   refine zR X86 hx d4 rfl rfl 5 rfl ?_
   refine zP X86 hx hZ hown (tw hw 47 rfl) e86 Fs85 d5 8 rfl fun T87 X87 e87 => ?_
   refine zCY X87 hx d8 (feq (by decide : ¬ ((-1 : Int32) = (0 : Int32)))).2 58 (by decide) ?_
   refine zR X87 hx d58 rfl rfl 59 rfl ?_
   refine zP X87 hx hZ hown (tw hw 47 rfl) e87 Fs1 d59 62 rfl fun T88 X88 e88 => ?_
   refine zR X88 hx d62 rfl rfl 63 rfl ?_
   refine zP X88 hx hZ hown (tw hw 47 rfl) e88 Fs85 d63 66 rfl fun T89 X89 e89 => ?_
   refine zCY X89 hx d66 (flt (by decide : ¬ ((0 : Int32) < (-1 : Int32)))).2.2.2 73 (by decide) ?_
   refine zK X89 hx d73 (-1 : Int32) rfl 74 rfl ?_
   exact own_finI X89 hx hlk (t := .int) hre (by simp) rfl d74 e89 ⟨(-1 : Int32), rfl, N0, rfl, (Or.inl ⟨rfl, by have qn_a := UI_ne hn1; have l_w1 := UI_lt w1; have l_u1 := UI_lt u1; omega⟩)⟩ (by decide) (by decide)
  ·refine zP X0 hx hZ hown (tw hw 47 rfl) e0 Fs1 d1 4 rfl fun T90 X90 e90 => ?_
   refine zR X90 hx d4 rfl rfl 5 rfl ?_
   refine zP X90 hx hZ hown (tw hw 47 rfl) e90 Fs85 d5 8 rfl fun T91 X91 e91 => ?_
   refine zCY X91 hx d8 (feq (by decide : ¬ ((-1 : Int32) = (1 : Int32)))).2 58 (by decide) ?_
   refine zR X91 hx d58 rfl rfl 59 rfl ?_
   refine zP X91 hx hZ hown (tw hw 47 rfl) e91 Fs1 d59 62 rfl fun T92 X92 e92 => ?_
   refine zR X92 hx d62 rfl rfl 63 rfl ?_
   refine zP X92 hx hZ hown (tw hw 47 rfl) e92 Fs85 d63 66 rfl fun T93 X93 e93 => ?_
   refine zCY X93 hx d66 (flt (by decide : ¬ ((1 : Int32) < (-1 : Int32)))).2.2.2 73 (by decide) ?_
   refine zK X93 hx d73 (-1 : Int32) rfl 74 rfl ?_
   exact own_finI X93 hx hlk (t := .int) hre (by simp) rfl d74 e93 ⟨(-1 : Int32), rfl, N0, rfl, (Or.inl ⟨rfl, by have qn_a := UI_ne hn1; have l_w1 := UI_lt w1; have l_u1 := UI_lt u1; have qn_b := UI_ne hn85; have l_w85 := UI_lt w85; omega⟩)⟩ (by decide) (by decide)
  ·refine zP X0 hx hZ hown (tw hw 47 rfl) e0 Fs1 d1 4 rfl fun T94 X94 e94 => ?_
   refine zR X94 hx d4 rfl rfl 5 rfl ?_
   refine zP X94 hx hZ hown (tw hw 47 rfl) e94 Fs85 d5 8 rfl fun T95 X95 e95 => ?_
   refine zCN X95 hx d8 (teq (by decide : ((-1 : Int32) = (-1 : Int32)))).2 11 rfl ?_
   refine zR X95 hx d11 rfl rfl 12 rfl ?_
   refine zP X95 hx hZ hown (tw hw 47 rfl) e95 Fs1 d12 15 rfl fun T96 X96 e96 => ?_
   refine zq 48 [] (fun t k => X96.lookupswitchHit hx (g := (mkF m 15 #[rv a, rv b] [.int (-1)])) rfl rfl d15 (by decide) (a := (-1)) (off := 33) (by decide) (show (0 : Int) ≤ 15 + 33 from by decide) t k) ?_
   refine zR X96 hx d48 rfl rfl 49 rfl ?_
   refine zR X96 hx d49 rfl rfl 50 rfl ?_
   refine zCV X96 hx hZ hml hown (tw hw 252 rfl) (tw hw 253 rfl) (tw hw 13 rfl) (tw hw 256 rfl) (tw hw 255 rfl) (tw hw 254 rfl) (rmCm12 l Z a0 hw [] b a m85 m1 km85 km1 w85 w1 u1 h0 n0 Z0 Fm85 Ar85 Fm1 Ar1) 0 (by decide) b [] rfl rfl (lenOf pd_23 rfl) rfl (Nat.le_of_eq rfl) e96 Eb85 d50 53 rfl fun T97 L97 v97 X97 ⟨Lc97, hQ97, l97⟩ => ?_
   obtain ⟨rfl, Nq97, eh97⟩ := hQ97
   have N97 := own_frApp N0 Nq97 l97
   refine zx [.int (-1)] rfl ?_
   refine zG X97 hx d53 57 (by decide) ?_
   exact own_finI X97 hx hlk (t := .int) hre (by simp) rfl d57 eh97 ⟨(-1 : Int32), rfl, N97, rfl, (Or.inl ⟨rfl, by have qn_a := UI_ne hn1; have l_w1 := UI_lt w1; have l_u1 := UI_lt u1; have qn_b := UI_ne hn85; have l_w85 := UI_lt w85; omega⟩)⟩ (by decide) (by decide)
  ·refine zP X0 hx hZ hown (tw hw 47 rfl) e0 Fs1 d1 4 rfl fun T98 X98 e98 => ?_
   refine zR X98 hx d4 rfl rfl 5 rfl ?_
   refine zP X98 hx hZ hown (tw hw 47 rfl) e98 Fs85 d5 8 rfl fun T99 X99 e99 => ?_
   refine zCY X99 hx d8 (feq (by decide : ¬ ((-1 : Int32) = (1 : Int32)))).2 58 (by decide) ?_
   refine zR X99 hx d58 rfl rfl 59 rfl ?_
   refine zP X99 hx hZ hown (tw hw 47 rfl) e99 Fs1 d59 62 rfl fun T100 X100 e100 => ?_
   refine zR X100 hx d62 rfl rfl 63 rfl ?_
   refine zP X100 hx hZ hown (tw hw 47 rfl) e100 Fs85 d63 66 rfl fun T101 X101 e101 => ?_
   refine zCY X101 hx d66 (flt (by decide : ¬ ((1 : Int32) < (-1 : Int32)))).2.2.2 73 (by decide) ?_
   refine zK X101 hx d73 (-1 : Int32) rfl 74 rfl ?_
   exact own_finI X101 hx hlk (t := .int) hre (by simp) rfl d74 e101 ⟨(-1 : Int32), rfl, N0, rfl, (Or.inl ⟨rfl, by have qn_a := UI_ne hn1; have l_w1 := UI_lt w1; have l_u1 := UI_lt u1; have qn_b := UI_ne hn85; have l_w85 := UI_lt w85; have l_u85 := UI_lt u85; omega⟩)⟩ (by decide) (by decide)
  ·refine zP X0 hx hZ hown (tw hw 47 rfl) e0 Fs1 d1 4 rfl fun T102 X102 e102 => ?_
   refine zR X102 hx d4 rfl rfl 5 rfl ?_
   refine zP X102 hx hZ hown (tw hw 47 rfl) e102 Fs85 d5 8 rfl fun T103 X103 e103 => ?_
   refine zCN X103 hx d8 (teq (by decide : ((-1 : Int32) = (-1 : Int32)))).2 11 rfl ?_
   refine zR X103 hx d11 rfl rfl 12 rfl ?_
   refine zP X103 hx hZ hown (tw hw 47 rfl) e103 Fs1 d12 15 rfl fun T104 X104 e104 => ?_
   refine zq 48 [] (fun t k => X104.lookupswitchHit hx (g := (mkF m 15 #[rv a, rv b] [.int (-1)])) rfl rfl d15 (by decide) (a := (-1)) (off := 33) (by decide) (show (0 : Int) ≤ 15 + 33 from by decide) t k) ?_
   refine zR X104 hx d48 rfl rfl 49 rfl ?_
   refine zR X104 hx d49 rfl rfl 50 rfl ?_
   refine zCV X104 hx hZ hml hown (tw hw 252 rfl) (tw hw 253 rfl) (tw hw 13 rfl) (tw hw 256 rfl) (tw hw 255 rfl) (tw hw 254 rfl) (rmCm22 l Z a0 hw [] b a m85 m1 km85 km1 w85 u85 w1 u1 h0 n0 Z0 Fm85 Ar85 Fm1 Ar1) 0 (by decide) b [] rfl rfl (lenOf pd_23 rfl) rfl (Nat.le_of_eq rfl) e104 Eb85 d50 53 rfl fun T105 L105 v105 X105 ⟨Lc105, hQ105, l105⟩ => ?_
   obtain ⟨c_105, rfl, Nq105, eh105, f105_0⟩ := hQ105
   have N105 := own_frApp N0 Nq105 l105
   refine zx [.int c_105] rfl ?_
   refine zG X105 hx d53 57 (by decide) ?_
   exact own_finI X105 hx hlk (t := .int) hre (by simp) rfl d57 eh105 ⟨c_105, rfl, N105, rfl, (Cm.of f105_0 (fun q => by omega) (fun q => by omega) (fun q => by omega))⟩ (by decide) (by decide)
def QrmCtR (Z : State) (r1 : Addr) (r2 : Addr) (nu : Addr) (de : Addr) (nw : Addr) (df : Addr) (va : Int) (vb : Int) (h0 : Heap) (n0 : Nat) (v : Option Value) (h : Heap) (L : List Loc) : Prop := ∃ c : Int32, v = some (.int c) ∧ Fr n0 L ∧ Keep h0 h [] ∧ (Cm c va vb)
abbrev RrmCtR : Room := { frames := 6, cells := 4, slots := 16, locals := 111 }
theorem rmCtR (l : Launch) (Z : State) (a0 : Array Value) (hw : ∀ d ∈ tables_1, d.before a0 Z = true) (ws : List Jvm.Cond) (r1 : Addr) (r2 : Addr) (nu : Addr) (de : Addr) (nw : Addr) (df : Addr) (va : Int) (vb : Int) (h0 : Heap) (n0 : Nat) (Z0 : n0 ≤ h0.size) (zA oA pA nA : Addr) (kP kN : ClassId) (vP vN : List Value) (G0 : Gl Z zA oA pA nA kP kN vP vN) (X00 : Old Z n0 h0) (p_Exa_r1 : Exa Z h0 r1 "com/example/curves_to_bounds/curvestobounds/curve/Rational") (p_Fld_r1_numerator : Fld Z h0 r1 "com/example/curves_to_bounds/curvestobounds/curve/Rational" "numerator" "Ljava/math/BigInteger;" (.ref nu)) (p_Fld_r1_denominator : Fld Z h0 r1 "com/example/curves_to_bounds/curvestobounds/curve/Rational" "denominator" "Ljava/math/BigInteger;" (.ref de)) (p_Exa_r2 : Exa Z h0 r2 "com/example/curves_to_bounds/curvestobounds/curve/Rational") (p_Fld_r2_numerator : Fld Z h0 r2 "com/example/curves_to_bounds/curvestobounds/curve/Rational" "numerator" "Ljava/math/BigInteger;" (.ref nw)) (p_Fld_r2_denominator : Fld Z h0 r2 "com/example/curves_to_bounds/curvestobounds/curve/Rational" "denominator" "Ljava/math/BigInteger;" (.ref df)) (p_BI_nu : BI Z h0 nu va) (p_BI_de : BI Z h0 de (1 : Int)) (p_BI_nw : BI Z h0 nw vb) (p_BI_df : BI Z h0 df (1 : Int)) : Mf l Z Nm43 prog_31_method_20_code 2 (Option.some Jvm.ClassFile.FieldType.int) ws RrmCtR #[(.ref r1), (.ref r2)] h0 (QrmCtR Z r1 r2 nu de nw df va vb h0 n0) := by
 refine own_entry (plainFor_of_name pn_com_example_curves_to_bounds_curvestobounds_curve_Rational) #[rv r1, rv r2] (fun _ => rfl) fun p e s m below meth c s₁ hx hby hml hown hnm hlk hre hZ X0 e0 => ?_
 have N0 := Fr.nil n0
 obtain ⟨d0, d1, d4, d5, d8, d11, d12, d15, d16, d19, d22, d25, -⟩ := D_43 hby
 obtain ⟨SZ, BZ, SO, BO, SP, AP, hcP, SN, AN, hcN⟩ := id G0
 refine zR X0 hx d0 rfl rfl 1 rfl ?_
 refine zP X0 hx hZ hown (tw hw 23 rfl) e0 p_Fld_r1_numerator d1 4 rfl fun T1 X1 e1 => ?_
 refine zR X1 hx d4 rfl rfl 5 rfl ?_
 refine zP X1 hx hZ hown (tw hw 25 rfl) e1 p_Fld_r2_denominator d5 8 rfl fun T2 X2 e2 => ?_
 refine zCV X2 hx hZ hml hown (tw hw 37 rfl) (tw hw 38 rfl) (tw hw 13 rfl) (tw hw 41 rfl) (tw hw 40 rfl) (tw hw 39 rfl) (rmMul l Z a0 hw [] nu df va h0 n0 Z0 zA oA pA nA kP kN vP vN G0 X00 p_BI_nu p_BI_df) 0 (by decide) nu [] rfl rfl (lenOf pd_16 rfl) rfl (Nat.le_of_eq rfl) e2 (BI.exa p_BI_nu) d8 11 rfl fun T3 L3 v3 X3 ⟨Lc3, hQ3, l3⟩ => ?_
 have X3 := own_reX X3 (rfl : _ = 2) (rfl : _ = 8)
 obtain ⟨g_3, rfl, Nq3, K3, f3_0⟩ := hQ3
 have N3 := own_frApp N0 Nq3 l3
 refine zx [.ref g_3] rfl ?_
 refine zR X3 hx d11 rfl rfl 12 rfl ?_
 have F4 := (p_Fld_r2_numerator.keep K3 nin0)
 refine zP X3 hx hZ hown (tw hw 23 rfl) rfl F4 d12 15 rfl fun T5 X5 e5 => ?_
 refine zR X5 hx d15 rfl rfl 16 rfl ?_
 have F6 := (p_Fld_r1_denominator.keep K3 nin0)
 refine zP X5 hx hZ hown (tw hw 25 rfl) e5 F6 d16 19 rfl fun T7 X7 e7 => ?_
 have F8 := ((BI.exa p_BI_nw).keep K3)
 have F9 := (BI.keep p_BI_nw ((Keep.refl h0 []).trans K3 all0))
 have F10 := (BI.keep p_BI_de ((Keep.refl h0 []).trans K3 all0))
 have F11 := (X00.keep K3 all0)
 refine zCV X7 hx hZ hml hown (tw hw 37 rfl) (tw hw 38 rfl) (tw hw 13 rfl) (tw hw 41 rfl) (tw hw 40 rfl) (tw hw 39 rfl) (rmMul l Z a0 hw [] nw de vb T3.heap n0 (Nat.le_trans Z0 K3.1) zA oA pA nA kP kN vP vN G0 F11 F9 F10) 1 (by decide) nw [.ref g_3] rfl rfl (lenOf pd_16 rfl) rfl (Nat.le_of_eq rfl) e7 F8 d19 22 rfl fun T12 L12 v12 X12 ⟨Lc12, hQ12, l12⟩ => ?_
 have X12 := own_reX X12 (rfl : _ = 4) (rfl : _ = 16)
 obtain ⟨g_12, rfl, Nq12, K12, f12_0⟩ := hQ12
 have N12 := own_frApp N3 Nq12 l12
 refine zx [.ref g_12, .ref g_3] rfl ?_
 have F13 := ((BI.exa f3_0).keep K12)
 have F14 := (BI.keep f3_0 ((Keep.refl T3.heap []).trans K12 all0))
 refine zCV X12 hx hZ hml hown (tw hw 177 rfl) (tw hw 178 rfl) (tw hw 13 rfl) (tw hw 181 rfl) (tw hw 180 rfl) (tw hw 179 rfl) (rmCt l Z a0 hw [] g_3 g_12 va vb T12.heap n0 (Nat.le_trans Z0 (Nat.le_trans K3.1 K12.1)) F14 f12_0) 0 (by decide) g_3 [] rfl rfl (lenOf pd_23 rfl) rfl (Nat.le_of_eq rfl) rfl F13 d22 25 rfl fun T15 L15 v15 X15 ⟨Lc15, hQ15, l15⟩ => ?_
 obtain ⟨c_15, rfl, Nq15, eh15, f15_0⟩ := hQ15
 have N15 := own_frApp N12 Nq15 l15
 refine zx [.int c_15] rfl ?_
 exact own_finI X15 hx hlk (t := .int) hre (by simp) rfl d25 eh15 ⟨c_15, rfl, N15, (((Keep.refl h0 []).trans K3 all0).trans K12 all0), f15_0⟩ (by decide) (by decide)
def QrmBc (Z : State) (p1 : Int32) (h0 : Heap) (n0 : Nat) (v : Option Value) (h : Heap) (L : List Loc) : Prop := ∃ z : Int32, v = some (.int z) ∧ Fr n0 L ∧ h = h0 ∧ ((z = (1 : Int32) → IsPow p1))
abbrev RrmBc : Room := { frames := 0, cells := 0, slots := 0, locals := 0 }
theorem rmBc (l : Launch) (Z : State) (a0 : Array Value) (hw : ∀ d ∈ tables_1, d.before a0 Z = true) (ws : List Jvm.Cond) (p1 : Int32) (h0 : Heap) (n0 : Nat) (Z0 : n0 ≤ h0.size)   : Mf l Z Nm36 jdk_33_method_49_code 1 (Option.some Jvm.ClassFile.FieldType.int) ws RrmBc #[(.int p1)] h0 (QrmBc Z p1 h0 n0) := by
 refine own_entry (plainFor_of_name pn_java_lang_Integer) #[iv p1] (fun _ => rfl) fun p e s m below meth c s₁ hx hby hml hown hnm hlk hre hZ X0 e0 => ?_
 have N0 := Fr.nil n0
 obtain ⟨d0, d1, d2, d3, d4, d7, d8, d9, d10, d11, d14, d15, d16, d17, d18, d21, d22, d23, d24, d25, d26, d27, d28, d29, d32, d33, d34, d35, d36, d38, d39, d40, d41, d42, d43, d45, d46, d47, d48, d49, d51, d52, -⟩ := D_36 hby
 refine zI X0 hx d0 rfl 1 rfl ?_
 refine zI X0 hx d1 rfl 2 rfl ?_
 refine zK X0 hx d2 1 rfl 3 rfl ?_
 refine zq 4 [.int ((p1.toUInt32 >>> ((1 : Int32) &&& 31).toUInt32).toInt32), .int p1] (fun t k => XS.iushr X0.here hx rfl d3 rfl k) ?_
 refine zq 7 [.int 1431655765, .int ((p1.toUInt32 >>> ((1 : Int32) &&& 31).toUInt32).toInt32), .int p1] (fun t k => X0.ldcWInt hx hown (mvT hZ (tw hw 58 rfl)) (g := (mkF m 4 #[iv p1] [.int ((p1.toUInt32 >>> ((1 : Int32) &&& 31).toUInt32).toInt32), .int p1])) rfl d4 _ k) ?_
 refine zq 8 [.int (((p1.toUInt32 >>> ((1 : Int32) &&& 31).toUInt32).toInt32) &&& (1431655765 : Int32)), .int p1] (fun t k => XS.iand X0.here hx rfl d7 rfl k) ?_
 refine zq 9 [.int (p1 - (((p1.toUInt32 >>> ((1 : Int32) &&& 31).toUInt32).toInt32) &&& (1431655765 : Int32)))] (fun t k => XS.isub X0.here hx rfl d8 rfl k) ?_
 obtain ⟨q1, e_q1⟩ : ∃ z, z = (p1 - (((p1.toUInt32 >>> ((1 : Int32) &&& 31).toUInt32).toInt32) &&& (1431655765 : Int32))) := ⟨_, rfl⟩
 rw [← e_q1]
 refine zl 10 _ [] (fun t k => XS.istoreN X0.here hx rfl d9 rfl (l' := #[iv q1]) rfl k) ?_
 refine zI X0 hx d10 rfl 11 rfl ?_
 refine zq 14 [.int 858993459, .int q1] (fun t k => X0.ldcWInt hx hown (mvT hZ (tw hw 59 rfl)) (g := (mkF m 11 #[iv q1] [.int q1])) rfl d11 _ k) ?_
 refine zq 15 [.int (q1 &&& (858993459 : Int32))] (fun t k => XS.iand X0.here hx rfl d14 rfl k) ?_
 refine zI X0 hx d15 rfl 16 rfl ?_
 refine zK X0 hx d16 2 rfl 17 rfl ?_
 refine zq 18 [.int ((q1.toUInt32 >>> ((2 : Int32) &&& 31).toUInt32).toInt32), .int (q1 &&& (858993459 : Int32))] (fun t k => XS.iushr X0.here hx rfl d17 rfl k) ?_
 refine zq 21 [.int 858993459, .int ((q1.toUInt32 >>> ((2 : Int32) &&& 31).toUInt32).toInt32), .int (q1 &&& (858993459 : Int32))] (fun t k => X0.ldcWInt hx hown (mvT hZ (tw hw 59 rfl)) (g := (mkF m 18 #[iv q1] [.int ((q1.toUInt32 >>> ((2 : Int32) &&& 31).toUInt32).toInt32), .int (q1 &&& (858993459 : Int32))])) rfl d18 _ k) ?_
 refine zq 22 [.int (((q1.toUInt32 >>> ((2 : Int32) &&& 31).toUInt32).toInt32) &&& (858993459 : Int32)), .int (q1 &&& (858993459 : Int32))] (fun t k => XS.iand X0.here hx rfl d21 rfl k) ?_
 refine zq 23 [.int ((q1 &&& (858993459 : Int32)) + (((q1.toUInt32 >>> ((2 : Int32) &&& 31).toUInt32).toInt32) &&& (858993459 : Int32)))] (fun t k => XS.iadd X0.here hx rfl d22 rfl k) ?_
 obtain ⟨q2, e_q2⟩ : ∃ z, z = ((q1 &&& (858993459 : Int32)) + (((q1.toUInt32 >>> ((2 : Int32) &&& 31).toUInt32).toInt32) &&& (858993459 : Int32))) := ⟨_, rfl⟩
 rw [← e_q2]
 refine zl 24 _ [] (fun t k => XS.istoreN X0.here hx rfl d23 rfl (l' := #[iv q2]) rfl k) ?_
 refine zI X0 hx d24 rfl 25 rfl ?_
 refine zI X0 hx d25 rfl 26 rfl ?_
 refine zK X0 hx d26 4 rfl 27 rfl ?_
 refine zq 28 [.int ((q2.toUInt32 >>> ((4 : Int32) &&& 31).toUInt32).toInt32), .int q2] (fun t k => XS.iushr X0.here hx rfl d27 rfl k) ?_
 refine zq 29 [.int (q2 + ((q2.toUInt32 >>> ((4 : Int32) &&& 31).toUInt32).toInt32))] (fun t k => XS.iadd X0.here hx rfl d28 rfl k) ?_
 refine zq 32 [.int 252645135, .int (q2 + ((q2.toUInt32 >>> ((4 : Int32) &&& 31).toUInt32).toInt32))] (fun t k => X0.ldcWInt hx hown (mvT hZ (tw hw 60 rfl)) (g := (mkF m 29 #[iv q2] [.int (q2 + ((q2.toUInt32 >>> ((4 : Int32) &&& 31).toUInt32).toInt32))])) rfl d29 _ k) ?_
 refine zq 33 [.int ((q2 + ((q2.toUInt32 >>> ((4 : Int32) &&& 31).toUInt32).toInt32)) &&& (252645135 : Int32))] (fun t k => XS.iand X0.here hx rfl d32 rfl k) ?_
 obtain ⟨q3, e_q3⟩ : ∃ z, z = ((q2 + ((q2.toUInt32 >>> ((4 : Int32) &&& 31).toUInt32).toInt32)) &&& (252645135 : Int32)) := ⟨_, rfl⟩
 rw [← e_q3]
 refine zl 34 _ [] (fun t k => XS.istoreN X0.here hx rfl d33 rfl (l' := #[iv q3]) rfl k) ?_
 refine zI X0 hx d34 rfl 35 rfl ?_
 refine zI X0 hx d35 rfl 36 rfl ?_
 refine zq 38 [.int 8, .int q3, .int q3] (fun t k => XS.bipush X0.here hx rfl d36 k) ?_
 refine zq 39 [.int ((q3.toUInt32 >>> ((8 : Int32) &&& 31).toUInt32).toInt32), .int q3] (fun t k => XS.iushr X0.here hx rfl d38 rfl k) ?_
 refine zq 40 [.int (q3 + ((q3.toUInt32 >>> ((8 : Int32) &&& 31).toUInt32).toInt32))] (fun t k => XS.iadd X0.here hx rfl d39 rfl k) ?_
 obtain ⟨q4, e_q4⟩ : ∃ z, z = (q3 + ((q3.toUInt32 >>> ((8 : Int32) &&& 31).toUInt32).toInt32)) := ⟨_, rfl⟩
 rw [← e_q4]
 refine zl 41 _ [] (fun t k => XS.istoreN X0.here hx rfl d40 rfl (l' := #[iv q4]) rfl k) ?_
 refine zI X0 hx d41 rfl 42 rfl ?_
 refine zI X0 hx d42 rfl 43 rfl ?_
 refine zq 45 [.int 16, .int q4, .int q4] (fun t k => XS.bipush X0.here hx rfl d43 k) ?_
 refine zq 46 [.int ((q4.toUInt32 >>> ((16 : Int32) &&& 31).toUInt32).toInt32), .int q4] (fun t k => XS.iushr X0.here hx rfl d45 rfl k) ?_
 refine zq 47 [.int (q4 + ((q4.toUInt32 >>> ((16 : Int32) &&& 31).toUInt32).toInt32))] (fun t k => XS.iadd X0.here hx rfl d46 rfl k) ?_
 obtain ⟨q5, e_q5⟩ : ∃ z, z = (q4 + ((q4.toUInt32 >>> ((16 : Int32) &&& 31).toUInt32).toInt32)) := ⟨_, rfl⟩
 rw [← e_q5]
 refine zl 48 _ [] (fun t k => XS.istoreN X0.here hx rfl d47 rfl (l' := #[iv q5]) rfl k) ?_
 refine zI X0 hx d48 rfl 49 rfl ?_
 refine zq 51 [.int 63, .int q5] (fun t k => XS.bipush X0.here hx rfl d49 k) ?_
 refine zq 52 [.int (q5 &&& (63 : Int32))] (fun t k => XS.iand X0.here hx rfl d51 rfl k) ?_
 exact own_finI X0 hx hlk (t := .int) hre (by simp) rfl d52 e0 ⟨(q5 &&& (63 : Int32)), rfl, N0, rfl, (fun h => bc_pow e_q1 e_q2 e_q3 e_q4 e_q5 h)⟩ (by decide) (by decide)
def QrmPcf1 (Z : State)  (h0 : Heap) (n0 : Nat) (v : Option Value) (h : Heap) (L : List Loc) : Prop := v = some (.int (0 : Int32)) ∧ Fr n0 L ∧ h = h0
abbrev RrmPcf1 : Room := { frames := 0, cells := 0, slots := 0, locals := 0 }
theorem rmPcf1 (l : Launch) (Z : State) (a0 : Array Value) (hw : ∀ d ∈ tables_1, d.before a0 Z = true) (ws : List Jvm.Cond)  (h0 : Heap) (n0 : Nat) (Z0 : n0 ≤ h0.size)   : Mf l Z Nm44 jdk_41_method_12_code 4 (Option.some Jvm.ClassFile.FieldType.int) ws RrmPcf1 #[(.int (0 : Int32)), (.int (1 : Int32)), (.int (1 : Int32)), .null] h0 (QrmPcf1 Z  h0 n0) := by
 refine own_entry (plainFor_of_name pn_jdk_internal_util_Preconditions) #[iv 0, iv 1, iv 1, .val .null] (fun _ => rfl) fun p e s m below meth c s₁ hx hby hml hown hnm hlk hre hZ X0 e0 => ?_
 have N0 := Fr.nil n0
 obtain ⟨d0, d1, d4, d5, d6, d9, d10, d11, d22, d23, -⟩ := D_44 hby
 refine zI X0 hx d0 rfl 1 rfl ?_
 refine zN X0 hx d1 ((if0 _ _).trans (flt (by decide : ¬ ((0 : Int32) < (0 : Int32)))).1) 4 rfl ?_
 refine zI X0 hx d4 rfl 5 rfl ?_
 refine zI X0 hx d5 rfl 6 rfl ?_
 refine zCN X0 hx d6 (flt (by decide : ¬ ((1 : Int32) < (0 : Int32)))).2.2.1 9 rfl ?_
 refine zI X0 hx d9 rfl 10 rfl ?_
 refine zI X0 hx d10 rfl 11 rfl ?_
 refine zCY X0 hx d11 (flt (by decide : ¬ ((1 : Int32) < (1 : Int32)))).2.2.2 22 (by decide) ?_
 refine zI X0 hx d22 rfl 23 rfl ?_
 exact own_finI X0 hx hlk (t := .int) hre (by simp) rfl d23 e0 ⟨rfl, N0, rfl⟩ (by decide) (by decide)
def QrmOcf1 (Z : State)  (h0 : Heap) (n0 : Nat) (v : Option Value) (h : Heap) (L : List Loc) : Prop := v = some (.int (0 : Int32)) ∧ Fr n0 L ∧ h = h0
abbrev RrmOcf1 : Room := { frames := 1, cells := 0, slots := 0, locals := 15 }
theorem rmOcf1 (l : Launch) (Z : State) (a0 : Array Value) (hw : ∀ d ∈ tables_1, d.before a0 Z = true) (ws : List Jvm.Cond)  (h0 : Heap) (n0 : Nat) (Z0 : n0 ≤ h0.size)   : Mf l Z Nm45 jdk_31_method_18_code 3 (Option.some Jvm.ClassFile.FieldType.int) ws RrmOcf1 #[(.int (0 : Int32)), (.int (1 : Int32)), (.int (1 : Int32))] h0 (QrmOcf1 Z  h0 n0) := by
 refine own_entry (plainFor_of_name pn_java_util_Objects) #[iv 0, iv 1, iv 1] (fun _ => rfl) fun p e s m below meth c s₁ hx hby hml hown hnm hlk hre hZ X0 e0 => ?_
 have N0 := Fr.nil n0
 obtain ⟨d0, d1, d2, d3, d4, d7, -⟩ := D_45 hby
 refine zI X0 hx d0 rfl 1 rfl ?_
 refine zI X0 hx d1 rfl 2 rfl ?_
 refine zI X0 hx d2 rfl 3 rfl ?_
 refine zq 4 [.null, .int 1, .int 1, .int 0] (fun t k => XS.aconstNull X0.here hx rfl d3 k) ?_
 refine zCS X0 hx hZ hml hown (tw hw 275 rfl) (tw hw 276 rfl) (tw hw 277 rfl) (tw hw 278 rfl) (rmPcf1 l Z a0 hw [] h0 n0 Z0) 0 (by decide) [] rfl (lenOf pd_24 rfl) rfl (Nat.le_of_eq rfl) e0 d4 7 rfl fun T1 L1 v1 X1 ⟨Lc1, hQ1, l1⟩ => ?_
 obtain ⟨rfl, Nq1, eh1⟩ := hQ1
 have N1 := own_frApp N0 Nq1 l1
 refine zx [.int 0] rfl ?_
 exact own_finI X1 hx hlk (t := .int) hre (by simp) rfl d7 eh1 ⟨rfl, N1, rfl⟩ (by decide) (by decide)
def QrmPcf2 (Z : State)  (h0 : Heap) (n0 : Nat) (v : Option Value) (h : Heap) (L : List Loc) : Prop := v = some (.int (1 : Int32)) ∧ Fr n0 L ∧ h = h0
abbrev RrmPcf2 : Room := { frames := 0, cells := 0, slots := 0, locals := 0 }
theorem rmPcf2 (l : Launch) (Z : State) (a0 : Array Value) (hw : ∀ d ∈ tables_1, d.before a0 Z = true) (ws : List Jvm.Cond)  (h0 : Heap) (n0 : Nat) (Z0 : n0 ≤ h0.size)   : Mf l Z Nm44 jdk_41_method_12_code 4 (Option.some Jvm.ClassFile.FieldType.int) ws RrmPcf2 #[(.int (1 : Int32)), (.int (2 : Int32)), (.int (2 : Int32)), .null] h0 (QrmPcf2 Z  h0 n0) := by
 refine own_entry (plainFor_of_name pn_jdk_internal_util_Preconditions) #[iv 1, iv 2, iv 2, .val .null] (fun _ => rfl) fun p e s m below meth c s₁ hx hby hml hown hnm hlk hre hZ X0 e0 => ?_
 have N0 := Fr.nil n0
 obtain ⟨d0, d1, d4, d5, d6, d9, d10, d11, d22, d23, -⟩ := D_44 hby
 refine zI X0 hx d0 rfl 1 rfl ?_
 refine zN X0 hx d1 ((if0 _ _).trans (flt (by decide : ¬ ((1 : Int32) < (0 : Int32)))).1) 4 rfl ?_
 refine zI X0 hx d4 rfl 5 rfl ?_
 refine zI X0 hx d5 rfl 6 rfl ?_
 refine zCN X0 hx d6 (flt (by decide : ¬ ((2 : Int32) < (1 : Int32)))).2.2.1 9 rfl ?_
 refine zI X0 hx d9 rfl 10 rfl ?_
 refine zI X0 hx d10 rfl 11 rfl ?_
 refine zCY X0 hx d11 (flt (by decide : ¬ ((2 : Int32) < (2 : Int32)))).2.2.2 22 (by decide) ?_
 refine zI X0 hx d22 rfl 23 rfl ?_
 exact own_finI X0 hx hlk (t := .int) hre (by simp) rfl d23 e0 ⟨rfl, N0, rfl⟩ (by decide) (by decide)
def QrmOcf2 (Z : State)  (h0 : Heap) (n0 : Nat) (v : Option Value) (h : Heap) (L : List Loc) : Prop := v = some (.int (1 : Int32)) ∧ Fr n0 L ∧ h = h0
abbrev RrmOcf2 : Room := { frames := 1, cells := 0, slots := 0, locals := 15 }
theorem rmOcf2 (l : Launch) (Z : State) (a0 : Array Value) (hw : ∀ d ∈ tables_1, d.before a0 Z = true) (ws : List Jvm.Cond)  (h0 : Heap) (n0 : Nat) (Z0 : n0 ≤ h0.size)   : Mf l Z Nm45 jdk_31_method_18_code 3 (Option.some Jvm.ClassFile.FieldType.int) ws RrmOcf2 #[(.int (1 : Int32)), (.int (2 : Int32)), (.int (2 : Int32))] h0 (QrmOcf2 Z  h0 n0) := by
 refine own_entry (plainFor_of_name pn_java_util_Objects) #[iv 1, iv 2, iv 2] (fun _ => rfl) fun p e s m below meth c s₁ hx hby hml hown hnm hlk hre hZ X0 e0 => ?_
 have N0 := Fr.nil n0
 obtain ⟨d0, d1, d2, d3, d4, d7, -⟩ := D_45 hby
 refine zI X0 hx d0 rfl 1 rfl ?_
 refine zI X0 hx d1 rfl 2 rfl ?_
 refine zI X0 hx d2 rfl 3 rfl ?_
 refine zq 4 [.null, .int 2, .int 2, .int 1] (fun t k => XS.aconstNull X0.here hx rfl d3 k) ?_
 refine zCS X0 hx hZ hml hown (tw hw 275 rfl) (tw hw 276 rfl) (tw hw 277 rfl) (tw hw 278 rfl) (rmPcf2 l Z a0 hw [] h0 n0 Z0) 0 (by decide) [] rfl (lenOf pd_24 rfl) rfl (Nat.le_of_eq rfl) e0 d4 7 rfl fun T1 L1 v1 X1 ⟨Lc1, hQ1, l1⟩ => ?_
 obtain ⟨rfl, Nq1, eh1⟩ := hQ1
 have N1 := own_frApp N0 Nq1 l1
 refine zx [.int 1] rfl ?_
 exact own_finI X1 hx hlk (t := .int) hre (by simp) rfl d7 eh1 ⟨rfl, N1, rfl⟩ (by decide) (by decide)
def QrmSlw (Z : State) (a1 : Addr) (a2 : Addr) (p1 : Int32) (p2 : Int32) (h0 : Heap) (n0 : Nat) (v : Option Value) (h : Heap) (L : List Loc) : Prop := v = none ∧ Fr n0 L ∧ h = h0
abbrev RrmSlw : Room := { frames := 0, cells := 0, slots := 0, locals := 0 }
theorem rmSlw (l : Launch) (Z : State) (a0 : Array Value) (hw : ∀ d ∈ tables_1, d.before a0 Z = true) (ws : List Jvm.Cond) (a1 : Addr) (a2 : Addr) (p1 : Int32) (p2 : Int32) (h0 : Heap) (n0 : Nat) (Z0 : n0 ≤ h0.size)   : Mf l Z Nm46 jdk_2097_method_103_code 7 (Option.none : Option Jvm.ClassFile.FieldType) ws RrmSlw #[(.ref a1), (.ref a2), (.int p1), (.int p2), (.int (0 : Int32))] h0 (QrmSlw Z a1 a2 p1 p2 h0 n0) := by
 refine own_entry (plainFor_of_name pn_java_math_BigInteger) #[rv a1, rv a2, iv p1, iv p2, iv 0, .unset, .unset] (fun _ => rfl) fun p e s m below meth c s₁ hx hby hml hown hnm hlk hre hZ X0 e0 => ?_
 have N0 := Fr.nil n0
 obtain ⟨d0, d2, d3, d4, d6, d7, d9, d11, d13, d42, -⟩ := D_46 hby
 refine zq 2 [.int 32] (fun t k => XS.bipush X0.here hx rfl d0 k) ?_
 refine zI X0 hx d2 rfl 3 rfl ?_
 refine zq 4 [.int ((32 : Int32) - p2)] (fun t k => XS.isub X0.here hx rfl d3 rfl k) ?_
 refine zl 6 _ [] (fun t k => XS.istore X0.here hx rfl d4 rfl (l' := #[rv a1, rv a2, iv p1, iv p2, iv 0, iv ((32 : Int32) - p2), .unset]) rfl k) ?_
 refine zK X0 hx d6 0 rfl 7 rfl ?_
 refine zl 9 _ [] (fun t k => XS.istore X0.here hx rfl d7 rfl (l' := #[rv a1, rv a2, iv p1, iv p2, iv 0, iv ((32 : Int32) - p2), iv 0]) rfl k) ?_
 refine zI2 X0 hx d9 rfl 11 rfl ?_
 refine zI2 X0 hx d11 rfl 13 rfl ?_
 refine zCY X0 hx d13 (flt (by decide : ¬ ((0 : Int32) < (0 : Int32)))).2.1 42 (by decide) ?_
 exact own_finV X0 hx hlk hre d42 e0 (K := _) ⟨rfl, N0, rfl⟩ (by decide) (by decide)
def QrmSlA (Z : State) (ma : Addr) (k : ClassId) (x : Int32) (p1 : Int32) (h0 : Heap) (n0 : Nat) (v : Option Value) (h : Heap) (L : List Loc) : Prop := ∃ ca : Addr, ∃ kc : ClassId, v = some (.ref ca) ∧ Fr n0 L ∧ Keep h0 h [] ∧ (h0.size ≤ ca) ∧ (Arv Z h ca kc .int (1 : Int32) [(.int (x <<< (p1 &&& 31)))] (.int (0 : Int32))) ∧ (Exa Z h ca "[I")
abbrev RrmSlA : Room := { frames := 2, cells := 1, slots := 1, locals := 29 }
theorem rmSlA (l : Launch) (Z : State) (a0 : Array Value) (hw : ∀ d ∈ tables_1, d.before a0 Z = true) (ws : List Jvm.Cond) (ma : Addr) (k : ClassId) (x : Int32) (p1 : Int32) (h0 : Heap) (n0 : Nat) (Z0 : n0 ≤ h0.size)  (p_Arv_ma : Arv Z h0 ma k .int (1 : Int32) [(.int x)] (.int (0 : Int32))) (hz : ¬ p1 = (0 : Int32)) (hr : UI p1 < 32) (hh : ((x.toUInt32 >>> (((32 : Int32) - p1) &&& 31).toUInt32).toInt32) = (0 : Int32)) : Mf l Z Nm37 jdk_2097_method_102_code 10 (Option.some (Jvm.ClassFile.FieldType.array Jvm.ClassFile.FieldType.int)) ws RrmSlA #[(.ref ma), (.int p1)] h0 (QrmSlA Z ma k x p1 h0 n0) := by
 refine own_entry (plainFor_of_name pn_java_math_BigInteger) #[rv ma, iv p1, .unset, .unset, .unset, .unset, .unset, .unset, .unset, .unset] (fun _ => rfl) fun p e s m below meth c s₁ hx hby hml hown hnm hlk hre hZ X0 e0 => ?_
 have N0 := Fr.nil n0
 obtain ⟨d0, d1, d2, d3, d4, d5, d7, d8, d9, d10, d11, d13, d14, d16, d17, -, -, -, -, -, -, -, -, -, -, -, -, d41, d42, d44, d46, d47, d48, d50, d51, d52, d53, d55, d56, d58, d60, -, -, -, -, -, -, -, -, -, -, -, -, -, d86, d88, d89, d90, d92, d94, d96, d97, d98, d100, d101, d103, d104, d105, d106, d107, d110, d111, d113, d115, d117, d118, d119, d120, d122, d123, d126, d127, d129, d130, d132, d133, d135, d138, d140, d142, d144, d145, d146, d148, d149, d150, d151, d152, d154, -⟩ := D_37 hby
 refine zI X0 hx d0 rfl 1 rfl ?_
 refine zK X0 hx d1 5 rfl 2 rfl ?_
 refine zq 3 [.int ((p1.toUInt32 >>> ((5 : Int32) &&& 31).toUInt32).toInt32)] (fun t k => XS.iushr X0.here hx rfl d2 rfl k) ?_
 have rw1 : ((p1.toUInt32 >>> ((5 : Int32) &&& 31).toUInt32).toInt32) = (0 : Int32) := (shr5 hr)
 rw [rw1]
 refine zl 4 _ [] (fun t k => XS.istoreN X0.here hx rfl d3 rfl (l' := #[rv ma, iv p1, iv 0, .unset, .unset, .unset, .unset, .unset, .unset, .unset]) rfl k) ?_
 refine zI X0 hx d4 rfl 5 rfl ?_
 refine zq 7 [.int 31, .int p1] (fun t k => XS.bipush X0.here hx rfl d5 k) ?_
 refine zq 8 [.int (p1 &&& (31 : Int32))] (fun t k => XS.iand X0.here hx rfl d7 rfl k) ?_
 have rw2 : (p1 &&& (31 : Int32)) = p1 := (and31 hr)
 rw [rw2]
 refine zl 9 _ [] (fun t k => XS.istoreN X0.here hx rfl d8 rfl (l' := #[rv ma, iv p1, iv 0, iv p1, .unset, .unset, .unset, .unset, .unset, .unset]) rfl k) ?_
 refine zR X0 hx d9 rfl rfl 10 rfl ?_
 refine zLn X0 hx hZ e0 p_Arv_ma d10 11 rfl ?_
 refine zl 13 _ [] (fun t k => XS.istore X0.here hx rfl d11 rfl (l' := #[rv ma, iv p1, iv 0, iv p1, iv 1, .unset, .unset, .unset, .unset, .unset]) rfl k) ?_
 refine zq 14 [.null] (fun t k => XS.aconstNull X0.here hx rfl d13 k) ?_
 refine zl 16 _ [] (fun t k => XS.astore X0.here hx rfl d14 rfl rfl (l' := #[rv ma, iv p1, iv 0, iv p1, iv 1, .val .null, .unset, .unset, .unset, .unset]) rfl k) ?_
 refine zI X0 hx d16 rfl 17 rfl ?_
 refine zY X0 hx d17 ((if0 _ _).trans (feq hz).2) 41 (by decide) ?_
 refine zK X0 hx d41 0 rfl 42 rfl ?_
 refine zl 44 _ [] (fun t k => XS.istore X0.here hx rfl d42 rfl (l' := #[rv ma, iv p1, iv 0, iv p1, iv 1, .val .null, iv 0, .unset, .unset, .unset]) rfl k) ?_
 refine zq 46 [.int 32] (fun t k => XS.bipush X0.here hx rfl d44 k) ?_
 refine zI X0 hx d46 rfl 47 rfl ?_
 refine zq 48 [.int ((32 : Int32) - p1)] (fun t k => XS.isub X0.here hx rfl d47 rfl k) ?_
 refine zl 50 _ [] (fun t k => XS.istore X0.here hx rfl d48 rfl (l' := #[rv ma, iv p1, iv 0, iv p1, iv 1, .val .null, iv 0, iv ((32 : Int32) - p1), .unset, .unset]) rfl k) ?_
 refine zR X0 hx d50 rfl rfl 51 rfl ?_
 refine zK X0 hx d51 0 rfl 52 rfl ?_
 refine zIa X0 hx hZ e0 p_Arv_ma (by decide) rfl d52 53 rfl ?_
 refine zI2 X0 hx d53 rfl 55 rfl ?_
 refine zq 56 [.int ((x.toUInt32 >>> (((32 : Int32) - p1) &&& 31).toUInt32).toInt32)] (fun t k => XS.iushr X0.here hx rfl d55 rfl k) ?_
 refine zl 58 _ [] (fun t k => XS.istore X0.here hx rfl d56 rfl (l' := #[rv ma, iv p1, iv 0, iv p1, iv 1, .val .null, iv 0, iv ((32 : Int32) - p1), iv ((x.toUInt32 >>> (((32 : Int32) - p1) &&& 31).toUInt32).toInt32), .unset]) rfl k) ?_
 refine zI2 X0 hx d58 rfl 60 rfl ?_
 refine zY X0 hx d60 ((if0 _ _).trans (teq hh).1) 86 (by decide) ?_
 refine zI2 X0 hx d86 rfl 88 rfl ?_
 refine zI X0 hx d88 rfl 89 rfl ?_
 refine zq 90 [.int 1] (fun t k => XS.iadd X0.here hx rfl d89 rfl k) ?_
 obtain ⟨T5, h5, k5, X5, e5, E5, A5, Ex5, st5⟩ := newPE X0 hx hZ (tw hw 69 rfl) e0 (g := (mkF m 90 #[rv ma, iv p1, iv 0, iv p1, iv 1, .val .null, iv 0, iv ((32 : Int32) - p1), iv ((x.toUInt32 >>> (((32 : Int32) - p1) &&& 31).toUInt32).toInt32), .unset] [.int 1])) rfl d90 rfl (by decide : ¬ ((1 : Int32) < (0 : Int32))) (cap := 1) (by decide) (by decide) (by decide) (by decide) (ad := "[I") (by decide)
 obtain ⟨b5, g5⟩ : ∃ z, z = h0.size := ⟨_, rfl⟩
 rw [← g5] at A5 Ex5 st5
 have X5 := own_reX X5 (rfl : _ = 1) (rfl : _ = 1)
 have V5 : Arv Z h5 b5 k5 .int (1 : Int32) [(.int (0 : Int32))] (.int (0 : Int32)) := (Arv.new A5 (by decide : ¬ ((1 : Int32) < (0 : Int32)))).pad (pad_rep [] (.int (0 : Int32)) 1)
 refine zt 92 [.ref b5] st5 ?_
 refine zl 94 _ [] (fun t k => XS.astore X5.here hx rfl d92 rfl rfl (l' := #[rv ma, iv p1, iv 0, iv p1, iv 1, rv b5, iv 0, iv ((32 : Int32) - p1), iv ((x.toUInt32 >>> (((32 : Int32) - p1) &&& 31).toUInt32).toInt32), .unset]) rfl k) ?_
 refine zI2 X5 hx d94 rfl 96 rfl ?_
 refine zK X5 hx d96 1 rfl 97 rfl ?_
 refine zq 98 [.int 0] (fun t k => XS.isub X5.here hx rfl d97 rfl k) ?_
 refine zl 100 _ [] (fun t k => XS.istore X5.here hx rfl d98 rfl (l' := #[rv ma, iv p1, iv 0, iv p1, iv 1, rv b5, iv 0, iv ((32 : Int32) - p1), iv ((x.toUInt32 >>> (((32 : Int32) - p1) &&& 31).toUInt32).toInt32), iv 0]) rfl k) ?_
 refine zK X5 hx d100 0 rfl 101 rfl ?_
 refine zI2 X5 hx d101 rfl 103 rfl ?_
 refine zK X5 hx d103 1 rfl 104 rfl ?_
 refine zq 105 [.int 1, .int 0] (fun t k => XS.iadd X5.here hx rfl d104 rfl k) ?_
 refine zR X5 hx d105 rfl rfl 106 rfl ?_
 have F6 := (p_Arv_ma.ext E5)
 refine zLn X5 hx hZ e5 F6 d106 107 rfl ?_
 refine zCS X5 hx hZ hml hown (tw hw 272 rfl) (tw hw 273 rfl) (tw hw 99 rfl) (tw hw 274 rfl) (rmOcf1 l Z a0 hw [] h5 n0 (Nat.le_trans Z0 E5.1)) 0 (by decide) [] rfl (lenOf pd_25 rfl) rfl (Nat.le_of_eq rfl) e5 d107 110 rfl fun T8 L8 v8 X8 ⟨Lc8, hQ8, l8⟩ => ?_
 obtain ⟨rfl, Nq8, eh8⟩ := hQ8
 have N8 := own_frApp N0 Nq8 l8
 refine zx [.int 0] rfl ?_
 refine zq 111 [] (fun t k => XS.pop X8.here hx rfl d110 rfl rfl k) ?_
 refine zI2 X8 hx d111 rfl 113 rfl ?_
 refine zI2 X8 hx d113 rfl 115 rfl ?_
 refine zI2 X8 hx d115 rfl 117 rfl ?_
 refine zq 118 [.int 0, .int 0] (fun t k => XS.iadd X8.here hx rfl d117 rfl k) ?_
 refine zK X8 hx d118 1 rfl 119 rfl ?_
 refine zq 120 [.int 1, .int 0] (fun t k => XS.iadd X8.here hx rfl d119 rfl k) ?_
 refine zR2 X8 hx d120 rfl rfl 122 rfl ?_
 refine zLn X8 hx hZ eh8 V5 d122 123 rfl ?_
 refine zCS X8 hx hZ hml hown (tw hw 272 rfl) (tw hw 273 rfl) (tw hw 99 rfl) (tw hw 274 rfl) (rmOcf1 l Z a0 hw [] h5 n0 (Nat.le_trans Z0 E5.1)) 0 (by decide) [] rfl (lenOf pd_25 rfl) rfl (Nat.le_of_eq rfl) eh8 d123 126 rfl fun T10 L10 v10 X10 ⟨Lc10, hQ10, l10⟩ => ?_
 obtain ⟨rfl, Nq10, eh10⟩ := hQ10
 have N10 := own_frApp N8 Nq10 l10
 refine zx [.int 0] rfl ?_
 refine zq 127 [] (fun t k => XS.pop X10.here hx rfl d126 rfl rfl k) ?_
 refine zR2 X10 hx d127 rfl rfl 129 rfl ?_
 refine zR X10 hx d129 rfl rfl 130 rfl ?_
 refine zI2 X10 hx d130 rfl 132 rfl ?_
 refine zI X10 hx d132 rfl 133 rfl ?_
 refine zI2 X10 hx d133 rfl 135 rfl ?_
 refine zCS X10 hx hZ hml hown (tw hw 279 rfl) (tw hw 280 rfl) (tw hw 13 rfl) (tw hw 281 rfl) (rmSlw l Z a0 hw [] b5 ma (0 : Int32) p1 h5 n0 (Nat.le_trans Z0 E5.1)) 0 (by decide) [] rfl (lenOf pd_26 rfl) rfl (Nat.le_of_eq rfl) eh10 d135 138 rfl fun T11 L11 v11 X11 ⟨Lc11, hQ11, l11⟩ => ?_
 obtain ⟨rfl, Nq11, eh11⟩ := hQ11
 have N11 := own_frApp N10 Nq11 l11
 refine zx [] rfl ?_
 refine zR2 X11 hx d138 rfl rfl 140 rfl ?_
 refine zI2 X11 hx d140 rfl 142 rfl ?_
 refine zI2 X11 hx d142 rfl 144 rfl ?_
 refine zq 145 [.int 0, .ref b5] (fun t k => XS.iadd X11.here hx rfl d144 rfl k) ?_
 refine zR X11 hx d145 rfl rfl 146 rfl ?_
 refine zI2 X11 hx d146 rfl 148 rfl ?_
 refine zIa X11 hx hZ eh11 F6 (by decide) rfl d148 149 rfl ?_
 refine zI X11 hx d149 rfl 150 rfl ?_
 refine zq 151 [.int (x <<< (p1 &&& 31)), .int 0, .ref b5] (fun t k => XS.ishl X11.here hx rfl d150 rfl k) ?_
 obtain ⟨cl13, Ar13, q13, S13, M13, H13, Gx13⟩ := id V5
 obtain ⟨T14, h14, X14, e14, W14, st14⟩ := stI X11 hx hZ eh11 Ar13 (j := (0 : Int32)) (inb_of S13 ⟨by decide, by decide⟩) (g := (mkF m 151 #[rv ma, iv p1, iv 0, iv p1, iv 1, rv b5, iv 0, iv ((32 : Int32) - p1), iv ((x.toUInt32 >>> (((32 : Int32) - p1) &&& 31).toUInt32).toInt32), iv 0] [.int (x <<< (p1 &&& 31)), .int 0, .ref b5])) rfl rfl d151
 have N14 := Fr.snoc X14 N11 (Nat.le_trans (Nat.le_trans Z0 (Nat.le_refl _)) (Nat.le_of_eq g5.symm))
 have V14 : Arv Z h14 b5 k5 .int (1 : Int32) [(.int (x <<< (p1 &&& 31)))] (.int (0 : Int32)) := Arv.set Ar13 q13 S13 M13 H13 Gx13 rfl W14 0 rfl (Nat.le_of_ble_eq_true rfl)
 refine zt 152 [] st14 ?_
 refine zR2 X14 hx d152 rfl rfl 154 rfl ?_
 have F15 := (Ex5.wr W14)
 exact own_finR X14 hx hlk hre rfl rfl d154 e14 ⟨b5, k5, rfl, N14, (((Keep.refl h0 []).ext E5).wr W14 (Or.inr (Nat.le_trans (Nat.le_refl _) (Nat.le_of_eq g5.symm)))), (Nat.le_trans (Nat.le_refl _) (Nat.le_of_eq g5.symm)), V14, F15⟩ (by decide) (by decide)
def QrmSlB (Z : State) (ma : Addr) (k : ClassId) (x : Int32) (p1 : Int32) (h0 : Heap) (n0 : Nat) (v : Option Value) (h : Heap) (L : List Loc) : Prop := ∃ ca : Addr, ∃ kc : ClassId, v = some (.ref ca) ∧ Fr n0 L ∧ Keep h0 h [] ∧ (h0.size ≤ ca) ∧ (Arv Z h ca kc .int (2 : Int32) [(.int ((x.toUInt32 >>> (((32 : Int32) - p1) &&& 31).toUInt32).toInt32)), (.int (x <<< (p1 &&& 31)))] (.int (0 : Int32))) ∧ (Exa Z h ca "[I")
abbrev RrmSlB : Room := { frames := 2, cells := 1, slots := 2, locals := 29 }
theorem rmSlB (l : Launch) (Z : State) (a0 : Array Value) (hw : ∀ d ∈ tables_1, d.before a0 Z = true) (ws : List Jvm.Cond) (ma : Addr) (k : ClassId) (x : Int32) (p1 : Int32) (h0 : Heap) (n0 : Nat) (Z0 : n0 ≤ h0.size)  (p_Arv_ma : Arv Z h0 ma k .int (1 : Int32) [(.int x)] (.int (0 : Int32))) (hz : ¬ p1 = (0 : Int32)) (hr : UI p1 < 32) (hh : ¬ ((x.toUInt32 >>> (((32 : Int32) - p1) &&& 31).toUInt32).toInt32) = (0 : Int32)) : Mf l Z Nm37 jdk_2097_method_102_code 10 (Option.some (Jvm.ClassFile.FieldType.array Jvm.ClassFile.FieldType.int)) ws RrmSlB #[(.ref ma), (.int p1)] h0 (QrmSlB Z ma k x p1 h0 n0) := by
 refine own_entry (plainFor_of_name pn_java_math_BigInteger) #[rv ma, iv p1, .unset, .unset, .unset, .unset, .unset, .unset, .unset, .unset] (fun _ => rfl) fun p e s m below meth c s₁ hx hby hml hown hnm hlk hre hZ X0 e0 => ?_
 have N0 := Fr.nil n0
 obtain ⟨d0, d1, d2, d3, d4, d5, d7, d8, d9, d10, d11, d13, d14, d16, d17, -, -, -, -, -, -, -, -, -, -, -, -, d41, d42, d44, d46, d47, d48, d50, d51, d52, d53, d55, d56, d58, d60, d63, d65, d66, d67, d68, d69, d71, d73, d75, d77, d80, d82, d83, -, -, -, -, -, d94, d96, d97, d98, d100, d101, d103, d104, d105, d106, d107, d110, d111, d113, d115, d117, d118, d119, d120, d122, d123, d126, d127, d129, d130, d132, d133, d135, d138, d140, d142, d144, d145, d146, d148, d149, d150, d151, d152, d154, -⟩ := D_37 hby
 refine zI X0 hx d0 rfl 1 rfl ?_
 refine zK X0 hx d1 5 rfl 2 rfl ?_
 refine zq 3 [.int ((p1.toUInt32 >>> ((5 : Int32) &&& 31).toUInt32).toInt32)] (fun t k => XS.iushr X0.here hx rfl d2 rfl k) ?_
 have rw1 : ((p1.toUInt32 >>> ((5 : Int32) &&& 31).toUInt32).toInt32) = (0 : Int32) := (shr5 hr)
 rw [rw1]
 refine zl 4 _ [] (fun t k => XS.istoreN X0.here hx rfl d3 rfl (l' := #[rv ma, iv p1, iv 0, .unset, .unset, .unset, .unset, .unset, .unset, .unset]) rfl k) ?_
 refine zI X0 hx d4 rfl 5 rfl ?_
 refine zq 7 [.int 31, .int p1] (fun t k => XS.bipush X0.here hx rfl d5 k) ?_
 refine zq 8 [.int (p1 &&& (31 : Int32))] (fun t k => XS.iand X0.here hx rfl d7 rfl k) ?_
 have rw2 : (p1 &&& (31 : Int32)) = p1 := (and31 hr)
 rw [rw2]
 refine zl 9 _ [] (fun t k => XS.istoreN X0.here hx rfl d8 rfl (l' := #[rv ma, iv p1, iv 0, iv p1, .unset, .unset, .unset, .unset, .unset, .unset]) rfl k) ?_
 refine zR X0 hx d9 rfl rfl 10 rfl ?_
 refine zLn X0 hx hZ e0 p_Arv_ma d10 11 rfl ?_
 refine zl 13 _ [] (fun t k => XS.istore X0.here hx rfl d11 rfl (l' := #[rv ma, iv p1, iv 0, iv p1, iv 1, .unset, .unset, .unset, .unset, .unset]) rfl k) ?_
 refine zq 14 [.null] (fun t k => XS.aconstNull X0.here hx rfl d13 k) ?_
 refine zl 16 _ [] (fun t k => XS.astore X0.here hx rfl d14 rfl rfl (l' := #[rv ma, iv p1, iv 0, iv p1, iv 1, .val .null, .unset, .unset, .unset, .unset]) rfl k) ?_
 refine zI X0 hx d16 rfl 17 rfl ?_
 refine zY X0 hx d17 ((if0 _ _).trans (feq hz).2) 41 (by decide) ?_
 refine zK X0 hx d41 0 rfl 42 rfl ?_
 refine zl 44 _ [] (fun t k => XS.istore X0.here hx rfl d42 rfl (l' := #[rv ma, iv p1, iv 0, iv p1, iv 1, .val .null, iv 0, .unset, .unset, .unset]) rfl k) ?_
 refine zq 46 [.int 32] (fun t k => XS.bipush X0.here hx rfl d44 k) ?_
 refine zI X0 hx d46 rfl 47 rfl ?_
 refine zq 48 [.int ((32 : Int32) - p1)] (fun t k => XS.isub X0.here hx rfl d47 rfl k) ?_
 refine zl 50 _ [] (fun t k => XS.istore X0.here hx rfl d48 rfl (l' := #[rv ma, iv p1, iv 0, iv p1, iv 1, .val .null, iv 0, iv ((32 : Int32) - p1), .unset, .unset]) rfl k) ?_
 refine zR X0 hx d50 rfl rfl 51 rfl ?_
 refine zK X0 hx d51 0 rfl 52 rfl ?_
 refine zIa X0 hx hZ e0 p_Arv_ma (by decide) rfl d52 53 rfl ?_
 refine zI2 X0 hx d53 rfl 55 rfl ?_
 refine zq 56 [.int ((x.toUInt32 >>> (((32 : Int32) - p1) &&& 31).toUInt32).toInt32)] (fun t k => XS.iushr X0.here hx rfl d55 rfl k) ?_
 refine zl 58 _ [] (fun t k => XS.istore X0.here hx rfl d56 rfl (l' := #[rv ma, iv p1, iv 0, iv p1, iv 1, .val .null, iv 0, iv ((32 : Int32) - p1), iv ((x.toUInt32 >>> (((32 : Int32) - p1) &&& 31).toUInt32).toInt32), .unset]) rfl k) ?_
 refine zI2 X0 hx d58 rfl 60 rfl ?_
 refine zN X0 hx d60 ((if0 _ _).trans (feq hh).1) 63 rfl ?_
 refine zI2 X0 hx d63 rfl 65 rfl ?_
 refine zI X0 hx d65 rfl 66 rfl ?_
 refine zq 67 [.int 1] (fun t k => XS.iadd X0.here hx rfl d66 rfl k) ?_
 refine zK X0 hx d67 1 rfl 68 rfl ?_
 refine zq 69 [.int 2] (fun t k => XS.iadd X0.here hx rfl d68 rfl k) ?_
 obtain ⟨T5, h5, k5, X5, e5, E5, A5, Ex5, st5⟩ := newPE X0 hx hZ (tw hw 69 rfl) e0 (g := (mkF m 69 #[rv ma, iv p1, iv 0, iv p1, iv 1, .val .null, iv 0, iv ((32 : Int32) - p1), iv ((x.toUInt32 >>> (((32 : Int32) - p1) &&& 31).toUInt32).toInt32), .unset] [.int 2])) rfl d69 rfl (by decide : ¬ ((2 : Int32) < (0 : Int32))) (cap := 2) (by decide) (by decide) (by decide) (by decide) (ad := "[I") (by decide)
 obtain ⟨b5, g5⟩ : ∃ z, z = h0.size := ⟨_, rfl⟩
 rw [← g5] at A5 Ex5 st5
 have X5 := own_reX X5 (rfl : _ = 1) (rfl : _ = 2)
 have V5 : Arv Z h5 b5 k5 .int (2 : Int32) [(.int (0 : Int32)), (.int (0 : Int32))] (.int (0 : Int32)) := (Arv.new A5 (by decide : ¬ ((2 : Int32) < (0 : Int32)))).pad (pad_rep [] (.int (0 : Int32)) 2)
 refine zt 71 [.ref b5] st5 ?_
 refine zl 73 _ [] (fun t k => XS.astore X5.here hx rfl d71 rfl rfl (l' := #[rv ma, iv p1, iv 0, iv p1, iv 1, rv b5, iv 0, iv ((32 : Int32) - p1), iv ((x.toUInt32 >>> (((32 : Int32) - p1) &&& 31).toUInt32).toInt32), .unset]) rfl k) ?_
 refine zR2 X5 hx d73 rfl rfl 75 rfl ?_
 refine zI2 X5 hx d75 rfl 77 rfl ?_
 refine zl 80 _ [.int 0, .ref b5] (fun t k => own_iinc X5.here hx rfl (q := (1 : Int32)) (by decide) (l' := #[.val (.ref ma), .val (.int p1), .val (.int (0 : Int32)), .val (.int p1), .val (.int (1 : Int32)), .val (.ref b5), .val (.int ((0 : Int32) + (1 : Int32))), .val (.int ((32 : Int32) - p1)), .val (.int ((x.toUInt32 >>> (((32 : Int32) - p1) &&& 31).toUInt32).toInt32)), .unset]) d77 rfl rfl k) ?_
 have rw6 : ((0 : Int32) + (1 : Int32)) = (1 : Int32) := (by decide)
 rw [rw6]
 refine zI2 X5 hx d80 rfl 82 rfl ?_
 obtain ⟨cl7, Ar7, q7, S7, M7, H7, Gx7⟩ := id V5
 obtain ⟨T8, h8, X8, e8, W8, st8⟩ := stI X5 hx hZ e5 Ar7 (j := (0 : Int32)) (inb_of S7 ⟨by decide, by decide⟩) (g := (mkF m 82 #[rv ma, iv p1, iv 0, iv p1, iv 1, rv b5, iv 1, iv ((32 : Int32) - p1), iv ((x.toUInt32 >>> (((32 : Int32) - p1) &&& 31).toUInt32).toInt32), .unset] [.int ((x.toUInt32 >>> (((32 : Int32) - p1) &&& 31).toUInt32).toInt32), .int 0, .ref b5])) rfl rfl d82
 have N8 := Fr.snoc X8 N0 (Nat.le_trans (Nat.le_trans Z0 (Nat.le_refl _)) (Nat.le_of_eq g5.symm))
 have V8 : Arv Z h8 b5 k5 .int (2 : Int32) [(.int ((x.toUInt32 >>> (((32 : Int32) - p1) &&& 31).toUInt32).toInt32)), (.int (0 : Int32))] (.int (0 : Int32)) := Arv.set Ar7 q7 S7 M7 H7 Gx7 rfl W8 0 rfl (Nat.le_of_ble_eq_true rfl)
 refine zt 83 [] st8 ?_
 refine zG X8 hx d83 94 (by decide) ?_
 refine zI2 X8 hx d94 rfl 96 rfl ?_
 refine zK X8 hx d96 1 rfl 97 rfl ?_
 refine zq 98 [.int 0] (fun t k => XS.isub X8.here hx rfl d97 rfl k) ?_
 refine zl 100 _ [] (fun t k => XS.istore X8.here hx rfl d98 rfl (l' := #[rv ma, iv p1, iv 0, iv p1, iv 1, rv b5, iv 1, iv ((32 : Int32) - p1), iv ((x.toUInt32 >>> (((32 : Int32) - p1) &&& 31).toUInt32).toInt32), iv 0]) rfl k) ?_
 refine zK X8 hx d100 0 rfl 101 rfl ?_
 refine zI2 X8 hx d101 rfl 103 rfl ?_
 refine zK X8 hx d103 1 rfl 104 rfl ?_
 refine zq 105 [.int 1, .int 0] (fun t k => XS.iadd X8.here hx rfl d104 rfl k) ?_
 refine zR X8 hx d105 rfl rfl 106 rfl ?_
 have F9 := ((p_Arv_ma.ext E5).other W8 (Nat.ne_of_lt (Nat.lt_of_lt_of_le p_Arv_ma.lt (Nat.le_of_eq g5.symm))))
 refine zLn X8 hx hZ e8 F9 d106 107 rfl ?_
 refine zCS X8 hx hZ hml hown (tw hw 272 rfl) (tw hw 273 rfl) (tw hw 99 rfl) (tw hw 274 rfl) (rmOcf1 l Z a0 hw [] h8 n0 (Nat.le_trans Z0 (Nat.le_trans E5.1 (Nat.le_of_eq W8.size.symm)))) 0 (by decide) [] rfl (lenOf pd_25 rfl) rfl (Nat.le_of_eq rfl) e8 d107 110 rfl fun T11 L11 v11 X11 ⟨Lc11, hQ11, l11⟩ => ?_
 obtain ⟨rfl, Nq11, eh11⟩ := hQ11
 have N11 := own_frApp N8 Nq11 l11
 refine zx [.int 0] rfl ?_
 refine zq 111 [] (fun t k => XS.pop X11.here hx rfl d110 rfl rfl k) ?_
 refine zI2 X11 hx d111 rfl 113 rfl ?_
 refine zI2 X11 hx d113 rfl 115 rfl ?_
 refine zI2 X11 hx d115 rfl 117 rfl ?_
 refine zq 118 [.int 1, .int 1] (fun t k => XS.iadd X11.here hx rfl d117 rfl k) ?_
 refine zK X11 hx d118 1 rfl 119 rfl ?_
 refine zq 120 [.int 2, .int 1] (fun t k => XS.iadd X11.here hx rfl d119 rfl k) ?_
 refine zR2 X11 hx d120 rfl rfl 122 rfl ?_
 refine zLn X11 hx hZ eh11 V8 d122 123 rfl ?_
 refine zCS X11 hx hZ hml hown (tw hw 272 rfl) (tw hw 273 rfl) (tw hw 99 rfl) (tw hw 274 rfl) (rmOcf2 l Z a0 hw [] h8 n0 (Nat.le_trans Z0 (Nat.le_trans E5.1 (Nat.le_of_eq W8.size.symm)))) 0 (by decide) [] rfl (lenOf pd_25 rfl) rfl (Nat.le_of_eq rfl) eh11 d123 126 rfl fun T13 L13 v13 X13 ⟨Lc13, hQ13, l13⟩ => ?_
 obtain ⟨rfl, Nq13, eh13⟩ := hQ13
 have N13 := own_frApp N11 Nq13 l13
 refine zx [.int 1] rfl ?_
 refine zq 127 [] (fun t k => XS.pop X13.here hx rfl d126 rfl rfl k) ?_
 refine zR2 X13 hx d127 rfl rfl 129 rfl ?_
 refine zR X13 hx d129 rfl rfl 130 rfl ?_
 refine zI2 X13 hx d130 rfl 132 rfl ?_
 refine zI X13 hx d132 rfl 133 rfl ?_
 refine zI2 X13 hx d133 rfl 135 rfl ?_
 refine zCS X13 hx hZ hml hown (tw hw 279 rfl) (tw hw 280 rfl) (tw hw 13 rfl) (tw hw 281 rfl) (rmSlw l Z a0 hw [] b5 ma (1 : Int32) p1 h8 n0 (Nat.le_trans Z0 (Nat.le_trans E5.1 (Nat.le_of_eq W8.size.symm)))) 0 (by decide) [] rfl (lenOf pd_26 rfl) rfl (Nat.le_of_eq rfl) eh13 d135 138 rfl fun T14 L14 v14 X14 ⟨Lc14, hQ14, l14⟩ => ?_
 obtain ⟨rfl, Nq14, eh14⟩ := hQ14
 have N14 := own_frApp N13 Nq14 l14
 refine zx [] rfl ?_
 refine zR2 X14 hx d138 rfl rfl 140 rfl ?_
 refine zI2 X14 hx d140 rfl 142 rfl ?_
 refine zI2 X14 hx d142 rfl 144 rfl ?_
 refine zq 145 [.int 1, .ref b5] (fun t k => XS.iadd X14.here hx rfl d144 rfl k) ?_
 refine zR X14 hx d145 rfl rfl 146 rfl ?_
 refine zI2 X14 hx d146 rfl 148 rfl ?_
 refine zIa X14 hx hZ eh14 F9 (by decide) rfl d148 149 rfl ?_
 refine zI X14 hx d149 rfl 150 rfl ?_
 refine zq 151 [.int (x <<< (p1 &&& 31)), .int 1, .ref b5] (fun t k => XS.ishl X14.here hx rfl d150 rfl k) ?_
 obtain ⟨cl16, Ar16, q16, S16, M16, H16, Gx16⟩ := id V8
 obtain ⟨T17, h17, X17, e17, W17, st17⟩ := stI X14 hx hZ eh14 Ar16 (j := (1 : Int32)) (inb_of S16 ⟨by decide, by decide⟩) (g := (mkF m 151 #[rv ma, iv p1, iv 0, iv p1, iv 1, rv b5, iv 1, iv ((32 : Int32) - p1), iv ((x.toUInt32 >>> (((32 : Int32) - p1) &&& 31).toUInt32).toInt32), iv 0] [.int (x <<< (p1 &&& 31)), .int 1, .ref b5])) rfl rfl d151
 have N17 := Fr.snoc X17 N14 (Nat.le_trans (Nat.le_trans Z0 (Nat.le_refl _)) (Nat.le_of_eq g5.symm))
 have V17 : Arv Z h17 b5 k5 .int (2 : Int32) [(.int ((x.toUInt32 >>> (((32 : Int32) - p1) &&& 31).toUInt32).toInt32)), (.int (x <<< (p1 &&& 31)))] (.int (0 : Int32)) := Arv.set Ar16 q16 S16 M16 H16 Gx16 rfl W17 1 rfl (Nat.le_of_ble_eq_true rfl)
 refine zt 152 [] st17 ?_
 refine zR2 X17 hx d152 rfl rfl 154 rfl ?_
 have F18 := ((Ex5.wr W8).wr W17)
 exact own_finR X17 hx hlk hre rfl rfl d154 e17 ⟨b5, k5, rfl, N17, ((((Keep.refl h0 []).ext E5).wr W8 (Or.inr (Nat.le_trans (Nat.le_refl _) (Nat.le_of_eq g5.symm)))).wr W17 (Or.inr (Nat.le_trans (Nat.le_refl _) (Nat.le_of_eq g5.symm)))), (Nat.le_trans (Nat.le_refl _) (Nat.le_of_eq g5.symm)), V17, F18⟩ (by decide) (by decide)
def QrmCkl (Z : State)  (h0 : Heap) (n0 : Nat) (v : Option Value) (h : Heap) (L : List Loc) : Prop := v = none ∧ Fr n0 L ∧ h = h0
abbrev RrmCkl : Room := { frames := 0, cells := 0, slots := 0, locals := 0 }
theorem rmCkl (l : Launch) (Z : State) (a0 : Array Value) (hw : ∀ d ∈ tables_1, d.before a0 Z = true) (ws : List Jvm.Cond)  (h0 : Heap) (n0 : Nat) (Z0 : n0 ≤ h0.size)   : Mf l Z Nm47 jdk_65_method_131_code 2 (Option.none : Option Jvm.ClassFile.FieldType) ws RrmCkl #[(.int (1 : Int32)), (.int (2 : Int32))] h0 (QrmCkl Z  h0 n0) := by
 refine own_entry (plainFor_of_name pn_java_util_Arrays) #[iv 1, iv 2] (fun _ => rfl) fun p e s m below meth c s₁ hx hby hml hown hnm hlk hre hZ X0 e0 => ?_
 have N0 := Fr.nil n0
 obtain ⟨d0, d1, d2, d37, -⟩ := D_47 hby
 refine zI X0 hx d0 rfl 1 rfl ?_
 refine zI X0 hx d1 rfl 2 rfl ?_
 refine zCY X0 hx d2 (flt (by decide : ¬ ((2 : Int32) < (1 : Int32)))).2.1 37 (by decide) ?_
 exact own_finV X0 hx hlk hre d37 e0 (K := _) ⟨rfl, N0, rfl⟩ (by decide) (by decide)
def QrmMin1 (Z : State)  (h0 : Heap) (n0 : Nat) (v : Option Value) (h : Heap) (L : List Loc) : Prop := v = some (.int (1 : Int32)) ∧ Fr n0 L ∧ h = h0
abbrev RrmMin1 : Room := { frames := 0, cells := 0, slots := 0, locals := 0 }
theorem rmMin1 (l : Launch) (Z : State) (a0 : Array Value) (hw : ∀ d ∈ tables_1, d.before a0 Z = true) (ws : List Jvm.Cond)  (h0 : Heap) (n0 : Nat) (Z0 : n0 ≤ h0.size)   : Mf l Z Nm48 jdk_29_method_69_code 2 (Option.some Jvm.ClassFile.FieldType.int) ws RrmMin1 #[(.int (1 : Int32)), (.int (1 : Int32))] h0 (QrmMin1 Z  h0 n0) := by
 refine own_entry pfor_rmMin1 #[iv 1, iv 1] (fun _ => rfl) fun p e s m below meth c s₁ hx hby hml hown hnm hlk hre hZ X0 e0 => ?_
 have N0 := Fr.nil n0
 obtain ⟨d0, d1, d2, d5, d6, d10, -⟩ := D_48 hby
 refine zI X0 hx d0 rfl 1 rfl ?_
 refine zI X0 hx d1 rfl 2 rfl ?_
 refine zCN X0 hx d2 (flt (by decide : ¬ ((1 : Int32) < (1 : Int32)))).2.2.1 5 rfl ?_
 refine zI X0 hx d5 rfl 6 rfl ?_
 refine zG X0 hx d6 10 (by decide) ?_
 exact own_finI X0 hx hlk (t := .int) hre (by simp) rfl d10 e0 ⟨rfl, N0, rfl⟩ (by decide) (by decide)
def QrmCori (Z : State) (ma : Addr) (k : ClassId) (x0 : Int32) (x : Int32) (h0 : Heap) (n0 : Nat) (v : Option Value) (h : Heap) (L : List Loc) : Prop := ∃ ca : Addr, ∃ kc : ClassId, v = some (.ref ca) ∧ Fr n0 L ∧ Keep h0 h [] ∧ (h0.size ≤ ca) ∧ (Arv Z h ca kc .int (1 : Int32) [(.int x)] (.int (0 : Int32))) ∧ (Exa Z h ca "[I")
abbrev RrmCori : Room := { frames := 1, cells := 1, slots := 1, locals := 30 }
theorem rmCori (l : Launch) (Z : State) (a0 : Array Value) (hw : ∀ d ∈ tables_1, d.before a0 Z = true) (ws : List Jvm.Cond) (ma : Addr) (k : ClassId) (x0 : Int32) (x : Int32) (h0 : Heap) (n0 : Nat) (Z0 : n0 ≤ h0.size)  (p_Arv_ma : Arv Z h0 ma k .int (2 : Int32) [(.int x0), (.int x)] (.int (0 : Int32))) : Mf l Z Nm49 jdk_65_method_137_code 5 (Option.some (Jvm.ClassFile.FieldType.array Jvm.ClassFile.FieldType.int)) ws RrmCori #[(.ref ma), (.int (1 : Int32)), (.int (2 : Int32))] h0 (QrmCori Z ma k x0 x h0 n0) := by
 refine own_entry (plainFor_of_name pn_java_util_Arrays) #[rv ma, iv 1, iv 2, .unset, .unset] (fun _ => rfl) fun p e s m below meth c s₁ hx hby hml hown hnm hlk hre hZ X0 e0 => ?_
 have N0 := Fr.nil n0
 obtain ⟨d0, d1, d2, d5, d6, d7, d8, d9, d10, d12, d14, d15, d16, d18, d19, d20, d21, d22, d23, d24, d27, d30, d32, -⟩ := D_49 hby
 refine zI X0 hx d0 rfl 1 rfl ?_
 refine zI X0 hx d1 rfl 2 rfl ?_
 refine zCS X0 hx hZ hml hown (tw hw 264 rfl) (tw hw 265 rfl) (tw hw 188 rfl) (tw hw 266 rfl) (rmCkl l Z a0 hw [] h0 n0 Z0) 0 (by decide) [] rfl (lenOf pd_27 rfl) rfl (Nat.le_of_eq rfl) e0 d2 5 rfl fun T1 L1 v1 X1 ⟨Lc1, hQ1, l1⟩ => ?_
 obtain ⟨rfl, Nq1, eh1⟩ := hQ1
 have N1 := own_frApp N0 Nq1 l1
 refine zx [] rfl ?_
 refine zI X1 hx d5 rfl 6 rfl ?_
 refine zI X1 hx d6 rfl 7 rfl ?_
 refine zq 8 [.int 1] (fun t k => XS.isub X1.here hx rfl d7 rfl k) ?_
 refine zl 9 _ [] (fun t k => XS.istoreN X1.here hx rfl d8 rfl (l' := #[rv ma, iv 1, iv 2, iv 1, .unset]) rfl k) ?_
 refine zI X1 hx d9 rfl 10 rfl ?_
 obtain ⟨T2, h2, k2, X2, e2, E2, A2, Ex2, st2⟩ := newPE X1 hx hZ (tw hw 69 rfl) eh1 (g := (mkF m 10 #[rv ma, iv 1, iv 2, iv 1, .unset] [.int 1])) rfl d10 rfl (by decide : ¬ ((1 : Int32) < (0 : Int32))) (cap := 1) (by decide) (by decide) (by decide) (by decide) (ad := "[I") (by decide)
 obtain ⟨b2, g2⟩ : ∃ z, z = h0.size := ⟨_, rfl⟩
 rw [← g2] at A2 Ex2 st2
 have X2 := own_reX X2 (rfl : _ = 1) (rfl : _ = 1)
 have V2 : Arv Z h2 b2 k2 .int (1 : Int32) [(.int (0 : Int32))] (.int (0 : Int32)) := (Arv.new A2 (by decide : ¬ ((1 : Int32) < (0 : Int32)))).pad (pad_rep [] (.int (0 : Int32)) 1)
 refine zt 12 [.ref b2] st2 ?_
 refine zl 14 _ [] (fun t k => XS.astore X2.here hx rfl d12 rfl rfl (l' := #[rv ma, iv 1, iv 2, iv 1, rv b2]) rfl k) ?_
 refine zR X2 hx d14 rfl rfl 15 rfl ?_
 refine zI X2 hx d15 rfl 16 rfl ?_
 refine zR2 X2 hx d16 rfl rfl 18 rfl ?_
 refine zK X2 hx d18 0 rfl 19 rfl ?_
 refine zR X2 hx d19 rfl rfl 20 rfl ?_
 have F3 := (p_Arv_ma.ext E2)
 refine zLn X2 hx hZ e2 F3 d20 21 rfl ?_
 refine zI X2 hx d21 rfl 22 rfl ?_
 refine zq 23 [.int 1, .int 0, .ref b2, .int 1, .ref ma] (fun t k => XS.isub X2.here hx rfl d22 rfl k) ?_
 refine zI X2 hx d23 rfl 24 rfl ?_
 refine zCS X2 hx hZ hml hown (tw hw 267 rfl) (tw hw 268 rfl) (tw hw 208 rfl) (tw hw 269 rfl) (rmMin1 l Z a0 hw [] h2 n0 (Nat.le_trans Z0 E2.1)) 4 (by decide) [.int 0, .ref b2, .int 1, .ref ma] rfl (lenOf pd_5 rfl) rfl (Nat.le_of_eq rfl) e2 d24 27 rfl fun T5 L5 v5 X5 ⟨Lc5, hQ5, l5⟩ => ?_
 obtain ⟨rfl, Nq5, eh5⟩ := hQ5
 have N5 := own_frApp N1 Nq5 l5
 refine zx [.int 1, .int 0, .ref b2, .int 1, .ref ma] rfl ?_
 obtain ⟨T6, h6, L6, X6, e6, N6, K6, V6, st6⟩ := cpA X5 hx hZ hown (tw hw 270 rfl) (tw hw 73 rfl) (tw hw 71 rfl) (tw hw 72 rfl) eh5 F3 V2 (Or.inl ⟨rfl, rfl⟩) (sp := (1 : Int32)) (dp := (0 : Int32)) (nn := (1 : Int32)) (us := [(.int x)]) (by decide) (by decide) (by decide) (by decide) (by decide) rfl (Nat.le_of_ble_eq_true rfl) N5 (Nat.le_trans (Nat.le_trans Z0 (Nat.le_refl _)) (Nat.le_of_eq g2.symm)) (g := (mkF m 27 #[rv ma, iv 1, iv 2, iv 1, rv b2] [.int 1, .int 0, .ref b2, .int 1, .ref ma])) rfl (by rw [hml]; rfl) rfl d27 (by decide) (W := 0) (by show 2 * 0 + _ ≤ _; exact Nat.le_of_eq rfl) (by decide)
 have X6 := own_reX X6 (rfl : _ = 1) (rfl : _ = 1)
 have V6 : Arv Z h6 b2 k2 .int (1 : Int32) [(.int x)] (.int (0 : Int32)) := V6
 refine zt 30 [] st6 ?_
 refine zR2 X6 hx d30 rfl rfl 32 rfl ?_
 have F7 := (Ex2.keep K6)
 exact own_finR X6 hx hlk hre rfl rfl d32 e6 ⟨b2, k2, rfl, N6, (((Keep.refl h0 []).ext E2).trans K6 (allS (Or.inr (Nat.le_trans (Nat.le_refl _) (Nat.le_of_eq g2.symm))) all0)), (Nat.le_trans (Nat.le_refl _) (Nat.le_of_eq g2.symm)), V6, F7⟩ (by decide) (by decide)
def QrmCor (Z : State) (ma : Addr) (k : ClassId) (x0 : Int32) (x : Int32) (h0 : Heap) (n0 : Nat) (v : Option Value) (h : Heap) (L : List Loc) : Prop := ∃ ca : Addr, ∃ kc : ClassId, v = some (.ref ca) ∧ Fr n0 L ∧ Keep h0 h [] ∧ (h0.size ≤ ca) ∧ (Arv Z h ca kc .int (1 : Int32) [(.int x)] (.int (0 : Int32))) ∧ (Exa Z h ca "[I")
abbrev RrmCor : Room := { frames := 2, cells := 1, slots := 1, locals := 46 }
theorem rmCor (l : Launch) (Z : State) (a0 : Array Value) (hw : ∀ d ∈ tables_1, d.before a0 Z = true) (ws : List Jvm.Cond) (ma : Addr) (k : ClassId) (x0 : Int32) (x : Int32) (h0 : Heap) (n0 : Nat) (Z0 : n0 ≤ h0.size)  (p_Arv_ma : Arv Z h0 ma k .int (2 : Int32) [(.int x0), (.int x)] (.int (0 : Int32))) : Mf l Z Nm50 jdk_65_method_136_code 3 (Option.some (Jvm.ClassFile.FieldType.array Jvm.ClassFile.FieldType.int)) ws RrmCor #[(.ref ma), (.int (1 : Int32)), (.int (2 : Int32))] h0 (QrmCor Z ma k x0 x h0 n0) := by
 refine own_entry (plainFor_of_name pn_java_util_Arrays) #[rv ma, iv 1, iv 2] (fun _ => rfl) fun p e s m below meth c s₁ hx hby hml hown hnm hlk hre hZ X0 e0 => ?_
 have N0 := Fr.nil n0
 obtain ⟨d0, d1, d10, d11, d12, d13, d16, -⟩ := D_50 hby
 refine zI X0 hx d0 rfl 1 rfl ?_
 refine zY X0 hx d1 ((if0 _ _).trans (feq (by decide : ¬ ((1 : Int32) = (0 : Int32)))).2) 10 (by decide) ?_
 refine zR X0 hx d10 rfl rfl 11 rfl ?_
 refine zI X0 hx d11 rfl 12 rfl ?_
 refine zI X0 hx d12 rfl 13 rfl ?_
 refine zCS X0 hx hZ hml hown (tw hw 261 rfl) (tw hw 262 rfl) (tw hw 188 rfl) (tw hw 263 rfl) (rmCori l Z a0 hw [] ma k x0 x h0 n0 Z0 p_Arv_ma) 0 (by decide) [] rfl (lenOf pd_28 rfl) rfl (Nat.le_of_eq rfl) e0 d13 16 rfl fun T1 L1 v1 X1 ⟨Lc1, hQ1, l1⟩ => ?_
 have X1 := own_reX X1 (rfl : _ = 1) (rfl : _ = 1)
 obtain ⟨ca_1, kc_1, rfl, Nq1, K1, f1_0, f1_1, f1_2⟩ := hQ1
 have N1 := own_frApp N0 Nq1 l1
 refine zx [.ref ca_1] rfl ?_
 exact own_finR X1 hx hlk hre rfl rfl d16 rfl ⟨ca_1, kc_1, rfl, N1, ((Keep.refl h0 []).trans K1 all0), (Nat.le_trans (Nat.le_refl _) f1_0), f1_1, f1_2⟩ (by decide) (by decide)
def QrmMbi (Z : State) (ma : Addr) (k : ClassId) (x : Int32) (y : Int32) (p1 : Int32) (h0 : Heap) (n0 : Nat) (v : Option Value) (h : Heap) (L : List Loc) : Prop := ∃ g : Addr, v = some (.ref g) ∧ Fr n0 L ∧ Keep h0 h [] ∧ (BI Z h g ((p1.toInt) * ((UI x * UI y : Nat) : Int)))
abbrev RrmMbi : Room := { frames := 3, cells := 3, slots := 9, locals := 60 }
theorem rmMbi (l : Launch) (Z : State) (a0 : Array Value) (hw : ∀ d ∈ tables_1, d.before a0 Z = true) (ws : List Jvm.Cond) (ma : Addr) (k : ClassId) (x : Int32) (y : Int32) (p1 : Int32) (h0 : Heap) (n0 : Nat) (Z0 : n0 ≤ h0.size)  (p_Arv_ma : Arv Z h0 ma k .int (1 : Int32) [(.int x)] (.int (0 : Int32))) (hz : ¬ x = (0 : Int32)) (hy : ¬ y = (0 : Int32)) (hs : p1 = (1 : Int32) ∨ p1 = (-1 : Int32)) : Mf l Z Nm38 jdk_2097_method_43_code 13 (Option.some (Jvm.ClassFile.FieldType.object "java/math/BigInteger")) ws RrmMbi #[(.ref ma), (.int y), (.int p1)] h0 (QrmMbi Z ma k x y p1 h0 n0) := by
 refine own_entry (plainFor_of_name pn_java_math_BigInteger) #[rv ma, iv y, iv p1, .unset, .unset, .unset, .unset, .unset, .unset, .unset, .unset, .unset, .unset] (fun _ => rfl) fun p e s m below meth c s₁ hx hby hml hown hnm hlk hre hZ X0 e0 => ?_
 have N0 := Fr.nil n0
 obtain ⟨d0, d1, d4, d5, d8, d11, d12, d13, d14, d17, d20, d21, d24, d25, d26, d27, d28, d29, d30, d31, d33, d35, d36, d38, d39, d40, d43, d44, d46, d48, d49, d50, d51, d53, d54, d55, d56, d58, d60, d63, d64, d66, d67, d68, d71, d72, d74, d75, d77, d78, d80, d82, d84, d87, d89, d90, d91, d93, d95, d96, d98, d101, d104, d106, d107, d108, d111, d113, d114, d116, d117, d120, d122, d125, d127, d129, d131, d132, d133, d136, d137, d139, d140, d143, -⟩ := D_38 hby
 refine zI X0 hx d0 rfl 1 rfl ?_
 refine zCS X0 hx hZ hml hown (tw hw 54 rfl) (tw hw 55 rfl) (tw hw 56 rfl) (tw hw 57 rfl) (rmBc l Z a0 hw [] y h0 n0 Z0) 0 (by decide) [] rfl (lenOf pd_0 rfl) rfl (Nat.le_of_eq rfl) e0 d1 4 rfl fun T1 L1 v1 X1 ⟨Lc1, hQ1, l1⟩ => ?_
 obtain ⟨z_1, rfl, Nq1, eh1, f1_0⟩ := hQ1
 have N1 := own_frApp N0 Nq1 l1
 refine zx [.int z_1] rfl ?_
 refine zK X1 hx d4 1 rfl 5 rfl ?_
 by_cases c2 : z_1 = (1 : Int32)
 ·refine zCN X1 hx d5 (teq c2).2 8 rfl ?_
  obtain ⟨T3, h3, X3, e3, E3, A3, D3, -, st3⟩ := newO X1 hx hZ hown (tw hw 61 rfl) (tw hw 62 rfl) (tw hw 13 rfl) eh1 (g := (mkF m 8 #[rv ma, iv y, iv p1, .unset, .unset, .unset, .unset, .unset, .unset, .unset, .unset, .unset, .unset] [])) rfl d8 (by decide) (by decide)
  obtain ⟨b3, g3⟩ : ∃ z, z = h0.size := ⟨_, rfl⟩
  rw [← g3] at A3 D3 st3
  have X3 := own_reX X3 (rfl : _ = 1) (rfl : _ = 6)
  refine zt 11 [.ref b3] st3 ?_
  refine zD X3 hx d11 rfl 12 rfl ?_
  refine zR X3 hx d12 rfl rfl 13 rfl ?_
  refine zI X3 hx d13 rfl 14 rfl ?_
  refine zCS X3 hx hZ hml hown (tw hw 63 rfl) (tw hw 64 rfl) (tw hw 56 rfl) (tw hw 65 rfl) (rmNtz l Z a0 hw [] y h3 n0 (Nat.le_trans Z0 E3.1) hy) 3 (by decide) [.ref ma, .ref b3, .ref b3] rfl (lenOf pd_0 rfl) rfl (Nat.le_of_eq rfl) e3 d14 17 rfl fun T4 L4 v4 X4 ⟨Lc4, hQ4, l4⟩ => ?_
  obtain ⟨z_4, rfl, Nq4, eh4, f4_0⟩ := hQ4
  have N4 := own_frApp N1 Nq4 l4
  refine zx [.int z_4, .ref ma, .ref b3, .ref b3] rfl ?_
  rcases own_tri (z_4 = (0 : Int32)) (((x.toUInt32 >>> (((32 : Int32) - z_4) &&& 31).toUInt32).toInt32) = (0 : Int32)) with hz0 | ⟨hz0, hh0⟩ | ⟨hz0, hh0⟩
  ·subst hz0
   have F6 := (p_Arv_ma.ext E3)
   refine zCS X4 hx hZ hml hown (tw hw 66 rfl) (tw hw 67 rfl) (tw hw 13 rfl) (tw hw 68 rfl) (rmSl01 l Z a0 hw [] ma k x h3 n0 (Nat.le_trans Z0 E3.1) F6) 2 (by decide) [.ref b3, .ref b3] rfl (lenOf pd_7 rfl) rfl (Nat.le_of_eq rfl) eh4 d17 20 rfl fun T7 L7 v7 X7 ⟨Lc7, hQ7, l7⟩ => ?_
   have X7 := own_reX X7 (rfl : _ = 2) (rfl : _ = 7)
   obtain ⟨ca_7, kc_7, rfl, Nq7, K7, f7_0, f7_1, f7_2⟩ := hQ7
   have N7 := own_frApp N4 Nq7 l7
   refine zx [.ref ca_7, .ref b3, .ref b3] rfl ?_
   refine zI X7 hx d20 rfl 21 rfl ?_
   have F8 := (A3.keep K7)
   have F9 := ((D3 (Or.inr (tw hw 48 rfl)) pf_0).keep K7 nin0)
   have F10 := ((D3 (Or.inr (tw hw 50 rfl)) pf_1).keep K7 nin0)
   refine zCI X7 hx hZ hml rfl rfl hown (tw hw 74 rfl) (tw hw 75 rfl) (tw hw 13 rfl) (tw hw 77 rfl) (rmBiA1 l Z a0 hw [] b3 ca_7 kc_7 p1 x T7.heap n0 (Nat.le_trans Z0 (Nat.le_trans E3.1 K7.1)) F8 F9 F10 (Nat.le_trans (Nat.le_trans Z0 (Nat.le_refl _)) (Nat.le_of_eq g3.symm)) f7_1 (Ne.symm (Nat.ne_of_lt (Nat.lt_of_lt_of_le A3.lt f7_0)))) 1 (by decide) b3 [.ref b3] rfl rfl (lenOf pd_9 rfl) rfl (Nat.le_of_eq rfl) rfl d21 24 rfl fun T11 L11 v11 X11 ⟨Lc11, hQ11, l11⟩ => ?_
   obtain ⟨rfl, Nq11, K11, f11_0, f11_1, f11_2⟩ := hQ11
   have N11 := own_frApp N7 Nq11 l11
   refine zx [.ref b3] rfl ?_
   have K12 : Keep h0 T11.heap [] := ((((Keep.refl h0 []).ext E3).trans K7 all0).trans K11 (allS (Or.inr (Nat.le_trans (Nat.le_refl _) (Nat.le_of_eq g3.symm))) all0))
   have F14 := (f7_2.keep K11)
   have F15 := (f7_1.keep K11 (ninS (Ne.symm (Nat.ne_of_lt (Nat.lt_of_lt_of_le A3.lt f7_0))) nin0))
   have B13 : BI Z T11.heap b3 ((p1.toInt) * ((UI x * UI y : Nat) : Int)) := BI.mk1 f11_0 f11_2 F14 F15 hz f11_1 hs (sv0 (f1_0 c2) f4_0)
   exact own_finR X11 hx hlk hre rfl rfl d24 rfl ⟨b3, rfl, N11, ((Keep.refl h0 []).trans K12 all0), B13⟩ (by decide) (by decide)
  ·have F16 := (p_Arv_ma.ext E3)
   refine zCS X4 hx hZ hml hown (tw hw 66 rfl) (tw hw 67 rfl) (tw hw 13 rfl) (tw hw 68 rfl) (rmSlA l Z a0 hw [] ma k x z_4 h3 n0 (Nat.le_trans Z0 E3.1) F16 hz0 (IsNtz.rng f4_0) hh0) 2 (by decide) [.ref b3, .ref b3] rfl (lenOf pd_7 rfl) rfl (Nat.le_of_eq rfl) eh4 d17 20 rfl fun T17 L17 v17 X17 ⟨Lc17, hQ17, l17⟩ => ?_
   have X17 := own_reX X17 (rfl : _ = 2) (rfl : _ = 7)
   obtain ⟨ca_17, kc_17, rfl, Nq17, K17, f17_0, f17_1, f17_2⟩ := hQ17
   have N17 := own_frApp N4 Nq17 l17
   refine zx [.ref ca_17, .ref b3, .ref b3] rfl ?_
   refine zI X17 hx d20 rfl 21 rfl ?_
   have F18 := (A3.keep K17)
   have F19 := ((D3 (Or.inr (tw hw 48 rfl)) pf_0).keep K17 nin0)
   have F20 := ((D3 (Or.inr (tw hw 50 rfl)) pf_1).keep K17 nin0)
   refine zCI X17 hx hZ hml rfl rfl hown (tw hw 74 rfl) (tw hw 75 rfl) (tw hw 13 rfl) (tw hw 77 rfl) (rmBiA1 l Z a0 hw [] b3 ca_17 kc_17 p1 (x <<< (z_4 &&& 31)) T17.heap n0 (Nat.le_trans Z0 (Nat.le_trans E3.1 K17.1)) F18 F19 F20 (Nat.le_trans (Nat.le_trans Z0 (Nat.le_refl _)) (Nat.le_of_eq g3.symm)) f17_1 (Ne.symm (Nat.ne_of_lt (Nat.lt_of_lt_of_le A3.lt f17_0)))) 1 (by decide) b3 [.ref b3] rfl rfl (lenOf pd_9 rfl) rfl (Nat.le_of_eq rfl) rfl d21 24 rfl fun T21 L21 v21 X21 ⟨Lc21, hQ21, l21⟩ => ?_
   obtain ⟨rfl, Nq21, K21, f21_0, f21_1, f21_2⟩ := hQ21
   have N21 := own_frApp N17 Nq21 l21
   refine zx [.ref b3] rfl ?_
   have K22 : Keep h0 T21.heap [] := ((((Keep.refl h0 []).ext E3).trans K17 all0).trans K21 (allS (Or.inr (Nat.le_trans (Nat.le_refl _) (Nat.le_of_eq g3.symm))) all0))
   have F24 := (f17_2.keep K21)
   have F25 := (f17_1.keep K21 (ninS (Ne.symm (Nat.ne_of_lt (Nat.lt_of_lt_of_le A3.lt f17_0))) nin0))
   have B23 : BI Z T21.heap b3 ((p1.toInt) * ((UI x * UI y : Nat) : Int)) := BI.mk1 f21_0 f21_2 F24 F25 (sv1n (f1_0 c2) f4_0 hz0 hh0 hz) f21_1 hs (sv1 (f1_0 c2) f4_0 hz0 hh0)
   exact own_finR X21 hx hlk hre rfl rfl d24 rfl ⟨b3, rfl, N21, ((Keep.refl h0 []).trans K22 all0), B23⟩ (by decide) (by decide)
  ·have F26 := (p_Arv_ma.ext E3)
   refine zCS X4 hx hZ hml hown (tw hw 66 rfl) (tw hw 67 rfl) (tw hw 13 rfl) (tw hw 68 rfl) (rmSlB l Z a0 hw [] ma k x z_4 h3 n0 (Nat.le_trans Z0 E3.1) F26 hz0 (IsNtz.rng f4_0) hh0) 2 (by decide) [.ref b3, .ref b3] rfl (lenOf pd_7 rfl) rfl (Nat.le_of_eq rfl) eh4 d17 20 rfl fun T27 L27 v27 X27 ⟨Lc27, hQ27, l27⟩ => ?_
   have X27 := own_reX X27 (rfl : _ = 2) (rfl : _ = 8)
   obtain ⟨ca_27, kc_27, rfl, Nq27, K27, f27_0, f27_1, f27_2⟩ := hQ27
   have N27 := own_frApp N4 Nq27 l27
   refine zx [.ref ca_27, .ref b3, .ref b3] rfl ?_
   refine zI X27 hx d20 rfl 21 rfl ?_
   have F28 := (A3.keep K27)
   have F29 := ((D3 (Or.inr (tw hw 48 rfl)) pf_0).keep K27 nin0)
   have F30 := ((D3 (Or.inr (tw hw 50 rfl)) pf_1).keep K27 nin0)
   refine zCI X27 hx hZ hml rfl rfl hown (tw hw 74 rfl) (tw hw 75 rfl) (tw hw 13 rfl) (tw hw 77 rfl) (rmBiA2 l Z a0 hw [] b3 ca_27 kc_27 p1 ((x.toUInt32 >>> (((32 : Int32) - z_4) &&& 31).toUInt32).toInt32) (x <<< (z_4 &&& 31)) T27.heap n0 (Nat.le_trans Z0 (Nat.le_trans E3.1 K27.1)) F28 F29 F30 (Nat.le_trans (Nat.le_trans Z0 (Nat.le_refl _)) (Nat.le_of_eq g3.symm)) f27_1 (Ne.symm (Nat.ne_of_lt (Nat.lt_of_lt_of_le A3.lt f27_0)))) 1 (by decide) b3 [.ref b3] rfl rfl (lenOf pd_9 rfl) rfl (Nat.le_of_eq rfl) rfl d21 24 rfl fun T31 L31 v31 X31 ⟨Lc31, hQ31, l31⟩ => ?_
   obtain ⟨rfl, Nq31, K31, f31_0, f31_1, f31_2⟩ := hQ31
   have N31 := own_frApp N27 Nq31 l31
   refine zx [.ref b3] rfl ?_
   have K32 : Keep h0 T31.heap [] := ((((Keep.refl h0 []).ext E3).trans K27 all0).trans K31 (allS (Or.inr (Nat.le_trans (Nat.le_refl _) (Nat.le_of_eq g3.symm))) all0))
   have F34 := (f27_2.keep K31)
   have F35 := (f27_1.keep K31 (ninS (Ne.symm (Nat.ne_of_lt (Nat.lt_of_lt_of_le A3.lt f27_0))) nin0))
   have B33 : BI Z T31.heap b3 ((p1.toInt) * ((UI x * UI y : Nat) : Int)) := BI.mk2 f31_0 f31_2 F34 F35 hh0 f31_1 hs (sv2 (f1_0 c2) f4_0 hz0)
   exact own_finR X31 hx hlk hre rfl rfl d24 rfl ⟨b3, rfl, N31, ((Keep.refl h0 []).trans K32 all0), B33⟩ (by decide) (by decide)
 ·refine zCY X1 hx d5 (feq c2).2 25 (by decide) ?_
  refine zR X1 hx d25 rfl rfl 26 rfl ?_
  refine zLn X1 hx hZ eh1 p_Arv_ma d26 27 rfl ?_
  refine zl 28 _ [] (fun t k => XS.istoreN X1.here hx rfl d27 rfl (l' := #[rv ma, iv y, iv p1, iv 1, .unset, .unset, .unset, .unset, .unset, .unset, .unset, .unset, .unset]) rfl k) ?_
  refine zI X1 hx d28 rfl 29 rfl ?_
  refine zK X1 hx d29 1 rfl 30 rfl ?_
  refine zq 31 [.int 2] (fun t k => XS.iadd X1.here hx rfl d30 rfl k) ?_
  obtain ⟨T37, h37, k37, X37, e37, E37, A37, Ex37, st37⟩ := newPE X1 hx hZ (tw hw 69 rfl) eh1 (g := (mkF m 31 #[rv ma, iv y, iv p1, iv 1, .unset, .unset, .unset, .unset, .unset, .unset, .unset, .unset, .unset] [.int 2])) rfl d31 rfl (by decide : ¬ ((2 : Int32) < (0 : Int32))) (cap := 2) (by decide) (by decide) (by decide) (by decide) (ad := "[I") (by decide)
  obtain ⟨b37, g37⟩ : ∃ z, z = h0.size := ⟨_, rfl⟩
  rw [← g37] at A37 Ex37 st37
  have X37 := own_reX X37 (rfl : _ = 1) (rfl : _ = 2)
  have V37 : Arv Z h37 b37 k37 .int (2 : Int32) [(.int (0 : Int32)), (.int (0 : Int32))] (.int (0 : Int32)) := (Arv.new A37 (by decide : ¬ ((2 : Int32) < (0 : Int32)))).pad (pad_rep [] (.int (0 : Int32)) 2)
  refine zt 33 [.ref b37] st37 ?_
  refine zl 35 _ [] (fun t k => XS.astore X37.here hx rfl d33 rfl rfl (l' := #[rv ma, iv y, iv p1, iv 1, rv b37, .unset, .unset, .unset, .unset, .unset, .unset, .unset, .unset]) rfl k) ?_
  refine zq 36 [.long 0] (fun t k => XS.lconst X37.here hx rfl d35 k) ?_
  refine zl 38 _ [] (fun t k => XS.lstore X37.here hx rfl d36 rfl (l' := #[rv ma, iv y, iv p1, iv 1, rv b37, .val (.long (0 : Int64)), .second, .unset, .unset, .unset, .unset, .unset, .unset]) rfl k) ?_
  refine zI X37 hx d38 rfl 39 rfl ?_
  refine zq 40 [.long (y.toInt64)] (fun t k => XS.i2l X37.here hx rfl d39 rfl k) ?_
  refine zq 43 [.long 4294967295, .long (y.toInt64)] (fun t k => X37.ldc2Long hx hown (mvT hZ (tw hw 257 rfl)) (g := (mkF m 40 #[rv ma, iv y, iv p1, iv 1, rv b37, .val (.long (0 : Int64)), .second, .unset, .unset, .unset, .unset, .unset, .unset] [.long (y.toInt64)])) rfl d40 _ k) ?_
  refine zq 44 [.long ((y.toInt64) &&& (4294967295 : Int64))] (fun t k => XS.land X37.here hx rfl d43 rfl k) ?_
  refine zl 46 _ [] (fun t k => XS.lstore X37.here hx rfl d44 rfl (l' := #[rv ma, iv y, iv p1, iv 1, rv b37, .val (.long (0 : Int64)), .second, .val (.long ((y.toInt64) &&& (4294967295 : Int64))), .second, .unset, .unset, .unset, .unset]) rfl k) ?_
  refine zR2 X37 hx d46 rfl rfl 48 rfl ?_
  refine zLn X37 hx hZ e37 V37 d48 49 rfl ?_
  refine zK X37 hx d49 1 rfl 50 rfl ?_
  refine zq 51 [.int 1] (fun t k => XS.isub X37.here hx rfl d50 rfl k) ?_
  refine zl 53 _ [] (fun t k => XS.istore X37.here hx rfl d51 rfl (l' := #[rv ma, iv y, iv p1, iv 1, rv b37, .val (.long (0 : Int64)), .second, .val (.long ((y.toInt64) &&& (4294967295 : Int64))), .second, iv 1, .unset, .unset, .unset]) rfl k) ?_
  refine zI X37 hx d53 rfl 54 rfl ?_
  refine zK X37 hx d54 1 rfl 55 rfl ?_
  refine zq 56 [.int 0] (fun t k => XS.isub X37.here hx rfl d55 rfl k) ?_
  refine zl 58 _ [] (fun t k => XS.istore X37.here hx rfl d56 rfl (l' := #[rv ma, iv y, iv p1, iv 1, rv b37, .val (.long (0 : Int64)), .second, .val (.long ((y.toInt64) &&& (4294967295 : Int64))), .second, iv 1, iv 0, .unset, .unset]) rfl k) ?_
  refine zI2 X37 hx d58 rfl 60 rfl ?_
  refine zN X37 hx d60 ((if0 _ _).trans (flt (by decide : ¬ ((0 : Int32) < (0 : Int32)))).1) 63 rfl ?_
  refine zR X37 hx d63 rfl rfl 64 rfl ?_
  refine zI2 X37 hx d64 rfl 66 rfl ?_
  have F39 := (p_Arv_ma.ext E37)
  refine zIa X37 hx hZ e37 F39 (by decide) rfl d66 67 rfl ?_
  refine zq 68 [.long (x.toInt64)] (fun t k => XS.i2l X37.here hx rfl d67 rfl k) ?_
  refine zq 71 [.long 4294967295, .long (x.toInt64)] (fun t k => X37.ldc2Long hx hown (mvT hZ (tw hw 257 rfl)) (g := (mkF m 68 #[rv ma, iv y, iv p1, iv 1, rv b37, .val (.long (0 : Int64)), .second, .val (.long ((y.toInt64) &&& (4294967295 : Int64))), .second, iv 1, iv 0, .unset, .unset] [.long (x.toInt64)])) rfl d68 _ k) ?_
  refine zq 72 [.long ((x.toInt64) &&& (4294967295 : Int64))] (fun t k => XS.land X37.here hx rfl d71 rfl k) ?_
  refine zJ2 X37 hx d72 rfl 74 rfl ?_
  refine zq 75 [.long (((x.toInt64) &&& (4294967295 : Int64)) * ((y.toInt64) &&& (4294967295 : Int64)))] (fun t k => XS.lmul X37.here hx rfl d74 rfl k) ?_
  refine zJ2 X37 hx d75 rfl 77 rfl ?_
  refine zq 78 [.long ((((x.toInt64) &&& (4294967295 : Int64)) * ((y.toInt64) &&& (4294967295 : Int64))) + (0 : Int64))] (fun t k => XS.ladd X37.here hx rfl d77 rfl k) ?_
  obtain ⟨tt, e_tt⟩ : ∃ z, z = ((((x.toInt64) &&& (4294967295 : Int64)) * ((y.toInt64) &&& (4294967295 : Int64))) + (0 : Int64)) := ⟨_, rfl⟩
  rw [← e_tt]
  have ht : UJ tt = UI x * UI y := by rw [e_tt]; exact mul_uj x y
  refine zl 80 _ [] (fun t k => XS.lstore X37.here hx rfl d78 rfl (l' := #[rv ma, iv y, iv p1, iv 1, rv b37, .val (.long (0 : Int64)), .second, .val (.long ((y.toInt64) &&& (4294967295 : Int64))), .second, iv 1, iv 0, .val (.long tt), .second]) rfl k) ?_
  refine zR2 X37 hx d80 rfl rfl 82 rfl ?_
  refine zI2 X37 hx d82 rfl 84 rfl ?_
  refine zl 87 _ [.int 1, .ref b37] (fun t k => own_iinc X37.here hx rfl (q := (-1 : Int32)) (by decide) (l' := #[.val (.ref ma), .val (.int y), .val (.int p1), .val (.int (1 : Int32)), .val (.ref b37), .val (.long (0 : Int64)), .second, .val (.long ((y.toInt64) &&& (4294967295 : Int64))), .second, .val (.int ((1 : Int32) + (-1 : Int32))), .val (.int (0 : Int32)), .val (.long tt), .second]) d84 rfl rfl k) ?_
  have rw41 : ((1 : Int32) + (-1 : Int32)) = (0 : Int32) := (by decide)
  rw [rw41]
  refine zJ2 X37 hx d87 rfl 89 rfl ?_
  refine zq 90 [.int (tt.toInt32), .int 1, .ref b37] (fun t k => XS.l2i X37.here hx rfl d89 rfl k) ?_
  obtain ⟨cl42, Ar42, q42, S42, M42, H42, Gx42⟩ := id V37
  obtain ⟨T43, h43, X43, e43, W43, st43⟩ := stI X37 hx hZ e37 Ar42 (j := (1 : Int32)) (inb_of S42 ⟨by decide, by decide⟩) (g := (mkF m 90 #[rv ma, iv y, iv p1, iv 1, rv b37, .val (.long (0 : Int64)), .second, .val (.long ((y.toInt64) &&& (4294967295 : Int64))), .second, iv 0, iv 0, .val (.long tt), .second] [.int (tt.toInt32), .int 1, .ref b37])) rfl rfl d90
  have N43 := Fr.snoc X43 N1 (Nat.le_trans (Nat.le_trans Z0 (Nat.le_refl _)) (Nat.le_of_eq g37.symm))
  have V43 : Arv Z h43 b37 k37 .int (2 : Int32) [(.int (0 : Int32)), (.int (tt.toInt32))] (.int (0 : Int32)) := Arv.set Ar42 q42 S42 M42 H42 Gx42 rfl W43 1 rfl (Nat.le_of_ble_eq_true rfl)
  refine zt 91 [] st43 ?_
  refine zJ2 X43 hx d91 rfl 93 rfl ?_
  refine zq 95 [.int 32, .long tt] (fun t k => XS.bipush X43.here hx rfl d93 k) ?_
  refine zq 96 [.long ((tt.toUInt64 >>> ((32 : Int32) &&& 0x3f).toInt64.toUInt64).toInt64)] (fun t k => XS.lushr X43.here hx rfl d95 rfl k) ?_
  refine zl 98 _ [] (fun t k => XS.lstore X43.here hx rfl d96 rfl (l' := #[rv ma, iv y, iv p1, iv 1, rv b37, .val (.long ((tt.toUInt64 >>> ((32 : Int32) &&& 0x3f).toInt64.toUInt64).toInt64)), .second, .val (.long ((y.toInt64) &&& (4294967295 : Int64))), .second, iv 0, iv 0, .val (.long tt), .second]) rfl k) ?_
  refine zl 101 _ [] (fun t k => own_iinc X43.here hx rfl (q := (-1 : Int32)) (by decide) (l' := #[.val (.ref ma), .val (.int y), .val (.int p1), .val (.int (1 : Int32)), .val (.ref b37), .val (.long ((tt.toUInt64 >>> ((32 : Int32) &&& 0x3f).toInt64.toUInt64).toInt64)), .second, .val (.long ((y.toInt64) &&& (4294967295 : Int64))), .second, .val (.int (0 : Int32)), .val (.int ((0 : Int32) + (-1 : Int32))), .val (.long tt), .second]) d98 rfl rfl k) ?_
  have rw44 : ((0 : Int32) + (-1 : Int32)) = (-1 : Int32) := (by decide)
  rw [rw44]
  refine zG X43 hx d101 58 (by decide) ?_
  refine zI2 X43 hx d58 rfl 60 rfl ?_
  refine zY X43 hx d60 ((if0 _ _).trans (tlt (by decide : ((-1 : Int32) < (0 : Int32)))).1) 104 (by decide) ?_
  refine zJ2 X43 hx d104 rfl 106 rfl ?_
  refine zq 107 [.long 0, .long ((tt.toUInt64 >>> ((32 : Int32) &&& 0x3f).toInt64.toUInt64).toInt64)] (fun t k => XS.lconst X43.here hx rfl d106 k) ?_
  refine zq 108 [.int (lcmpW ((tt.toUInt64 >>> ((32 : Int32) &&& 0x3f).toInt64.toUInt64).toInt64) (0 : Int64))] (fun t k => XS.lcmp X43.here hx rfl d107 rfl k) ?_
  by_cases c45 : (lcmpW ((tt.toUInt64 >>> ((32 : Int32) &&& 0x3f).toInt64.toUInt64).toInt64) (0 : Int64)) = (0 : Int32)
  ·refine zN X43 hx d108 ((if0 _ _).trans (teq c45).2) 111 rfl ?_
   refine zR2 X43 hx d111 rfl rfl 113 rfl ?_
   refine zK X43 hx d113 1 rfl 114 rfl ?_
   refine zR2 X43 hx d114 rfl rfl 116 rfl ?_
   refine zLn X43 hx hZ e43 V43 d116 117 rfl ?_
   refine zCS X43 hx hZ hml hown (tw hw 258 rfl) (tw hw 259 rfl) (tw hw 188 rfl) (tw hw 260 rfl) (rmCor l Z a0 hw [] b37 k37 (0 : Int32) (tt.toInt32) h43 n0 (Nat.le_trans Z0 (Nat.le_trans E37.1 (Nat.le_of_eq W43.size.symm))) V43) 0 (by decide) [] rfl (lenOf pd_28 rfl) rfl (Nat.le_of_eq rfl) e43 d117 120 rfl fun T47 L47 v47 X47 ⟨Lc47, hQ47, l47⟩ => ?_
   have X47 := own_reX X47 (rfl : _ = 2) (rfl : _ = 3)
   obtain ⟨ca_47, kc_47, rfl, Nq47, K47, f47_0, f47_1, f47_2⟩ := hQ47
   have N47 := own_frApp N43 Nq47 l47
   refine zx [.ref ca_47] rfl ?_
   refine zl 122 _ [] (fun t k => XS.astore X47.here hx rfl d120 rfl rfl (l' := #[rv ma, iv y, iv p1, iv 1, rv ca_47, .val (.long ((tt.toUInt64 >>> ((32 : Int32) &&& 0x3f).toInt64.toUInt64).toInt64)), .second, .val (.long ((y.toInt64) &&& (4294967295 : Int64))), .second, iv 0, iv (-1), .val (.long tt), .second]) rfl k) ?_
   refine zG X47 hx d122 133 (by decide) ?_
   obtain ⟨T48, h48, X48, e48, E48, A48, D48, -, st48⟩ := newO X47 hx hZ hown (tw hw 61 rfl) (tw hw 62 rfl) (tw hw 13 rfl) rfl (g := (mkF m 133 #[rv ma, iv y, iv p1, iv 1, rv ca_47, .val (.long ((tt.toUInt64 >>> ((32 : Int32) &&& 0x3f).toInt64.toUInt64).toInt64)), .second, .val (.long ((y.toInt64) &&& (4294967295 : Int64))), .second, iv 0, iv (-1), .val (.long tt), .second] [])) rfl d133 (by decide) (by decide)
   obtain ⟨b48, g48⟩ : ∃ z, z = T47.heap.size := ⟨_, rfl⟩
   rw [← g48] at A48 D48 st48
   have X48 := own_reX X48 (rfl : _ = 3) (rfl : _ = 9)
   refine zt 136 [.ref b48] st48 ?_
   refine zD X48 hx d136 rfl 137 rfl ?_
   refine zR2 X48 hx d137 rfl rfl 139 rfl ?_
   refine zI X48 hx d139 rfl 140 rfl ?_
   have F49 := (f47_1.ext E48)
   refine zCI X48 hx hZ hml rfl rfl hown (tw hw 74 rfl) (tw hw 75 rfl) (tw hw 13 rfl) (tw hw 77 rfl) (rmBiA1 l Z a0 hw [] b48 ca_47 kc_47 p1 (tt.toInt32) h48 n0 (Nat.le_trans Z0 (Nat.le_trans (Nat.le_trans (Nat.le_trans E37.1 (Nat.le_of_eq W43.size.symm)) K47.1) E48.1)) A48 (D48 (Or.inr (tw hw 48 rfl)) pf_0) (D48 (Or.inr (tw hw 50 rfl)) pf_1) (Nat.le_trans (Nat.le_trans Z0 (Nat.le_trans (Nat.le_trans E37.1 (Nat.le_of_eq W43.size.symm)) K47.1)) (Nat.le_of_eq g48.symm)) F49 (Nat.ne_of_lt (Nat.lt_of_lt_of_le f47_1.lt (Nat.le_of_eq g48.symm)))) 1 (by decide) b48 [.ref b48] rfl rfl (lenOf pd_9 rfl) rfl (Nat.le_of_eq rfl) e48 d140 143 rfl fun T50 L50 v50 X50 ⟨Lc50, hQ50, l50⟩ => ?_
   obtain ⟨rfl, Nq50, K50, f50_0, f50_1, f50_2⟩ := hQ50
   have N50 := own_frApp N47 Nq50 l50
   refine zx [.ref b48] rfl ?_
   have F52 := ((f47_2.ext E48).keep K50)
   have F53 := (F49.keep K50 (ninS (Nat.ne_of_lt (Nat.lt_of_lt_of_le f47_1.lt (Nat.le_of_eq g48.symm))) nin0))
   have B51 : BI Z T50.heap b48 ((p1.toInt) * ((UI x * UI y : Nat) : Int)) := BI.mk1 f50_0 f50_2 F52 F53 (mb_ne hz hy ht (mb_car0 c45)) f50_1 hs (by rw [(mb_car0 c45), ht])
   exact own_finR X50 hx hlk hre rfl rfl d143 rfl ⟨b48, rfl, N50, ((((((Keep.refl h0 []).ext E37).wr W43 (Or.inr (Nat.le_trans (Nat.le_refl _) (Nat.le_of_eq g37.symm)))).trans K47 all0).ext E48).trans K50 (allS (Or.inr (Nat.le_trans (Nat.le_trans (Nat.le_trans E37.1 (Nat.le_of_eq W43.size.symm)) K47.1) (Nat.le_of_eq g48.symm))) all0)), B51⟩ (by decide) (by decide)
  ·refine zY X43 hx d108 ((if0 _ _).trans (feq c45).2) 125 (by decide) ?_
   refine zR2 X43 hx d125 rfl rfl 127 rfl ?_
   refine zI2 X43 hx d127 rfl 129 rfl ?_
   refine zJ2 X43 hx d129 rfl 131 rfl ?_
   refine zq 132 [.int (((tt.toUInt64 >>> ((32 : Int32) &&& 0x3f).toInt64.toUInt64).toInt64).toInt32), .int 0, .ref b37] (fun t k => XS.l2i X43.here hx rfl d131 rfl k) ?_
   obtain ⟨cl54, Ar54, q54, S54, M54, H54, Gx54⟩ := id V43
   obtain ⟨T55, h55, X55, e55, W55, st55⟩ := stI X43 hx hZ e43 Ar54 (j := (0 : Int32)) (inb_of S54 ⟨by decide, by decide⟩) (g := (mkF m 132 #[rv ma, iv y, iv p1, iv 1, rv b37, .val (.long ((tt.toUInt64 >>> ((32 : Int32) &&& 0x3f).toInt64.toUInt64).toInt64)), .second, .val (.long ((y.toInt64) &&& (4294967295 : Int64))), .second, iv 0, iv (-1), .val (.long tt), .second] [.int (((tt.toUInt64 >>> ((32 : Int32) &&& 0x3f).toInt64.toUInt64).toInt64).toInt32), .int 0, .ref b37])) rfl rfl d132
   have N55 := Fr.snoc X55 N43 (Nat.le_trans (Nat.le_trans Z0 (Nat.le_refl _)) (Nat.le_of_eq g37.symm))
   have V55 : Arv Z h55 b37 k37 .int (2 : Int32) [(.int (((tt.toUInt64 >>> ((32 : Int32) &&& 0x3f).toInt64.toUInt64).toInt64).toInt32)), (.int (tt.toInt32))] (.int (0 : Int32)) := Arv.set Ar54 q54 S54 M54 H54 Gx54 rfl W55 0 rfl (Nat.le_of_ble_eq_true rfl)
   refine zt 133 [] st55 ?_
   obtain ⟨T56, h56, X56, e56, E56, A56, D56, -, st56⟩ := newO X55 hx hZ hown (tw hw 61 rfl) (tw hw 62 rfl) (tw hw 13 rfl) e55 (g := (mkF m 133 #[rv ma, iv y, iv p1, iv 1, rv b37, .val (.long ((tt.toUInt64 >>> ((32 : Int32) &&& 0x3f).toInt64.toUInt64).toInt64)), .second, .val (.long ((y.toInt64) &&& (4294967295 : Int64))), .second, iv 0, iv (-1), .val (.long tt), .second] [])) rfl d133 (by decide) (by decide)
   obtain ⟨b56, g56⟩ : ∃ z, z = h55.size := ⟨_, rfl⟩
   rw [← g56] at A56 D56 st56
   have X56 := own_reX X56 (rfl : _ = 2) (rfl : _ = 8)
   refine zt 136 [.ref b56] st56 ?_
   refine zD X56 hx d136 rfl 137 rfl ?_
   refine zR2 X56 hx d137 rfl rfl 139 rfl ?_
   refine zI X56 hx d139 rfl 140 rfl ?_
   have F57 := (V55.ext E56)
   refine zCI X56 hx hZ hml rfl rfl hown (tw hw 74 rfl) (tw hw 75 rfl) (tw hw 13 rfl) (tw hw 77 rfl) (rmBiA2 l Z a0 hw [] b56 b37 k37 p1 (((tt.toUInt64 >>> ((32 : Int32) &&& 0x3f).toInt64.toUInt64).toInt64).toInt32) (tt.toInt32) h56 n0 (Nat.le_trans Z0 (Nat.le_trans (Nat.le_trans (Nat.le_trans E37.1 (Nat.le_of_eq W43.size.symm)) (Nat.le_of_eq W55.size.symm)) E56.1)) A56 (D56 (Or.inr (tw hw 48 rfl)) pf_0) (D56 (Or.inr (tw hw 50 rfl)) pf_1) (Nat.le_trans (Nat.le_trans Z0 (Nat.le_trans (Nat.le_trans E37.1 (Nat.le_of_eq W43.size.symm)) (Nat.le_of_eq W55.size.symm))) (Nat.le_of_eq g56.symm)) F57 (Nat.ne_of_lt (Nat.lt_of_lt_of_le (Nat.lt_of_lt_of_le V37.lt (Nat.le_trans (Nat.le_of_eq W43.size.symm) (Nat.le_of_eq W55.size.symm))) (Nat.le_of_eq g56.symm)))) 1 (by decide) b56 [.ref b56] rfl rfl (lenOf pd_9 rfl) rfl (Nat.le_of_eq rfl) e56 d140 143 rfl fun T58 L58 v58 X58 ⟨Lc58, hQ58, l58⟩ => ?_
   obtain ⟨rfl, Nq58, K58, f58_0, f58_1, f58_2⟩ := hQ58
   have N58 := own_frApp N55 Nq58 l58
   refine zx [.ref b56] rfl ?_
   have K59 : Keep h0 T58.heap [] := ((((((Keep.refl h0 []).ext E37).wr W43 (Or.inr (Nat.le_trans (Nat.le_refl _) (Nat.le_of_eq g37.symm)))).wr W55 (Or.inr (Nat.le_trans (Nat.le_refl _) (Nat.le_of_eq g37.symm)))).ext E56).trans K58 (allS (Or.inr (Nat.le_trans (Nat.le_trans (Nat.le_trans E37.1 (Nat.le_of_eq W43.size.symm)) (Nat.le_of_eq W55.size.symm)) (Nat.le_of_eq g56.symm))) all0))
   have F61 := ((((Ex37.wr W43).wr W55).ext E56).keep K58)
   have F62 := (F57.keep K58 (ninS (Nat.ne_of_lt (Nat.lt_of_lt_of_le (Nat.lt_of_lt_of_le V37.lt (Nat.le_trans (Nat.le_of_eq W43.size.symm) (Nat.le_of_eq W55.size.symm))) (Nat.le_of_eq g56.symm))) nin0))
   have B60 : BI Z T58.heap b56 ((p1.toInt) * ((UI x * UI y : Nat) : Int)) := BI.mk2 f58_0 f58_2 F61 F62 (mb_car1 c45) f58_1 hs (mb_two ht).symm
   exact own_finR X58 hx hlk hre rfl rfl d143 rfl ⟨b56, rfl, N58, ((Keep.refl h0 []).trans K59 all0), B60⟩ (by decide) (by decide)
def QrmMulG4 (Z : State) (a : Addr) (b : Addr) (va : Int) (vb : Int) (h0 : Heap) (n0 : Nat) (v : Option Value) (h : Heap) (L : List Loc) : Prop := ∃ g : Addr, v = some (.ref g) ∧ Fr n0 L ∧ Keep h0 h [] ∧ (BI Z h g (va * vb))
abbrev RrmMulG4 : Room := { frames := 4, cells := 3, slots := 9, locals := 84 }
theorem rmMulG4 (l : Launch) (Z : State) (a0 : Array Value) (hw : ∀ d ∈ tables_1, d.before a0 Z = true) (ws : List Jvm.Cond) (a : Addr) (b : Addr) (va : Int) (vb : Int) (h0 : Heap) (n0 : Nat) (Z0 : n0 ≤ h0.size) (zA oA pA nA : Addr) (kP kN : ClassId) (vP vN : List Value) (G0 : Gl Z zA oA pA nA kP kN vP vN) (X00 : Old Z n0 h0) (p_BI_a : BI Z h0 a va) (p_BI_b : BI Z h0 b vb) (ba : va.natAbs < 4294967296) (bb : vb.natAbs < 4294967296) : Mf l Z Nm39 jdk_2097_method_42_code 9 (Option.some (Jvm.ClassFile.FieldType.object "java/math/BigInteger")) ws RrmMulG4 #[(.ref a), (.ref b), (.int (0 : Int32)), (.int (0 : Int32)), (.int (0 : Int32))] h0 (QrmMulG4 Z a b va vb h0 n0) := by
 refine own_entry (plainFor_of_name pn_java_math_BigInteger) #[rv a, rv b, iv 0, iv 0, iv 0, .unset, .unset, .unset, .unset] (fun _ => rfl) fun p e s m below meth c s₁ hx hby hml hown hnm hlk hre hZ X0 e0 => ?_
 have N0 := Fr.nil n0
 obtain ⟨d0, d1, d4, d7, d8, d11, d14, d17, d18, d19, d22, d23, d25, d26, d27, d30, d32, d34, d46, d47, d50, d51, d53, d55, d57, d67, d68, d71, d72, d75, d78, d79, d82, d83, d85, d86, d89, d90, d91, d94, d95, d98, d99, d102, d103, d104, d106, d109, -⟩ := D_39 hby
 obtain ⟨SZ, BZ, SO, BO, SP, AP, hcP, SN, AN, hcN⟩ := id G0
 rcases id p_BI_b with ⟨m1, km1, Eb1, Fm1, Em1, (⟨Fs1, Ar1, hv1⟩ | ⟨w1, hn1, Ar1, (⟨Fs1, hv1⟩ | ⟨Fs1, hv1⟩)⟩ | ⟨w1, u1, hn1, Ar1, (⟨Fs1, hv1⟩ | ⟨Fs1, hv1⟩)⟩)⟩
 ·refine zR X0 hx d0 rfl rfl 1 rfl ?_
  refine zP X0 hx hZ hown (tw hw 47 rfl) e0 Fs1 d1 4 rfl fun T2 X2 e2 => ?_
  refine zY X2 hx d4 ((if0 _ _).trans (teq (by decide : ((0 : Int32) = (0 : Int32)))).1) 14 (by decide) ?_
  obtain ⟨T3, X3, e3, st3⟩ := getS (host := "") X2 hx hZ hown (tw hw 15 rfl) Via.refl e2 (SZ.ext X00.2) (g := (mkF m 14 #[rv a, rv b, iv 0, iv 0, iv 0, .unset, .unset, .unset, .unset] [])) rfl d14
  refine zt 17 [.ref zA] st3 ?_
  have B4 : BI Z h0 zA (va * vb) := BI.cast ((by rw [hv1]; exact (Int.mul_zero va).symm) : (0 : Int) = (va * vb)) (BZ.ext X00.2)
  exact own_finR X3 hx hlk hre rfl rfl d17 e3 ⟨zA, rfl, N0, (Keep.refl h0 []), B4⟩ (by decide) (by decide)
 ·refine zR X0 hx d0 rfl rfl 1 rfl ?_
  rcases id p_BI_a with ⟨m5, km5, Eb5, Fm5, Em5, (⟨Fs5, Ar5, hv5⟩ | ⟨w5, hn5, Ar5, (⟨Fs5, hv5⟩ | ⟨Fs5, hv5⟩)⟩ | ⟨w5, u5, hn5, Ar5, (⟨Fs5, hv5⟩ | ⟨Fs5, hv5⟩)⟩)⟩
  ·refine zP X0 hx hZ hown (tw hw 47 rfl) e0 Fs1 d1 4 rfl fun T6 X6 e6 => ?_
   refine zN X6 hx d4 ((if0 _ _).trans (feq (by decide : ¬ ((1 : Int32) = (0 : Int32)))).1) 7 rfl ?_
   refine zR X6 hx d7 rfl rfl 8 rfl ?_
   refine zP X6 hx hZ hown (tw hw 47 rfl) e6 Fs5 d8 11 rfl fun T7 X7 e7 => ?_
   refine zN X7 hx d11 ((if0 _ _).trans (teq (by decide : ((0 : Int32) = (0 : Int32)))).2) 14 rfl ?_
   obtain ⟨T8, X8, e8, st8⟩ := getS (host := "") X7 hx hZ hown (tw hw 15 rfl) Via.refl e7 (SZ.ext X00.2) (g := (mkF m 14 #[rv a, rv b, iv 0, iv 0, iv 0, .unset, .unset, .unset, .unset] [])) rfl d14
   refine zt 17 [.ref zA] st8 ?_
   have B9 : BI Z h0 zA (va * vb) := BI.cast ((by rw [hv5]; exact (Int.zero_mul vb).symm) : (0 : Int) = (va * vb)) (BZ.ext X00.2)
   exact own_finR X8 hx hlk hre rfl rfl d17 e8 ⟨zA, rfl, N0, (Keep.refl h0 []), B9⟩ (by decide) (by decide)
  ·refine zP X0 hx hZ hown (tw hw 47 rfl) e0 Fs1 d1 4 rfl fun T10 X10 e10 => ?_
   refine zN X10 hx d4 ((if0 _ _).trans (feq (by decide : ¬ ((1 : Int32) = (0 : Int32)))).1) 7 rfl ?_
   refine zR X10 hx d7 rfl rfl 8 rfl ?_
   refine zP X10 hx hZ hown (tw hw 47 rfl) e10 Fs5 d8 11 rfl fun T11 X11 e11 => ?_
   refine zY X11 hx d11 ((if0 _ _).trans (feq (by decide : ¬ ((1 : Int32) = (0 : Int32)))).2) 18 (by decide) ?_
   refine zR X11 hx d18 rfl rfl 19 rfl ?_
   refine zP X11 hx hZ hown (tw hw 49 rfl) e11 Fm5 d19 22 rfl fun T12 X12 e12 => ?_
   refine zLn X12 hx hZ e12 Ar5 d22 23 rfl ?_
   refine zl 25 _ [] (fun t k => XS.istore X12.here hx rfl d23 rfl (l' := #[rv a, rv b, iv 0, iv 0, iv 0, iv 1, .unset, .unset, .unset]) rfl k) ?_
   refine zR X12 hx d25 rfl rfl 26 rfl ?_
   refine zR X12 hx d26 rfl rfl 27 rfl ?_
   have J14 : Ends p.tables e below (fun o U' => ∃ v L, o = .returned v ∧ QrmMulG4 Z a b va vb h0 n0 v U'.heap L ∧ FrameEnd s o U' L RrmMulG4.cells RrmMulG4.slots) (T12.setTop (mkF m 46 #[rv a, rv b, iv 0, iv 0, iv 0, iv 1, .unset, .unset, .unset] [])) := by
    refine zR X12 hx d46 rfl rfl 47 rfl ?_
    refine zP X12 hx hZ hown (tw hw 49 rfl) e12 Fm1 d47 50 rfl fun T15 X15 e15 => ?_
    refine zLn X15 hx hZ e15 Ar1 d50 51 rfl ?_
    refine zl 53 _ [] (fun t k => XS.istore X15.here hx rfl d51 rfl (l' := #[rv a, rv b, iv 0, iv 0, iv 0, iv 1, iv 1, .unset, .unset]) rfl k) ?_
    refine zI2 X15 hx d53 rfl 55 rfl ?_
    refine zq 57 [.int 80, .int 1] (fun t k => XS.bipush X15.here hx rfl d55 k) ?_
    refine zCY X15 hx d57 (tlt (by decide : ((1 : Int32) < (80 : Int32)))).1 67 (by decide) ?_
    refine zR X15 hx d67 rfl rfl 68 rfl ?_
    refine zP X15 hx hZ hown (tw hw 47 rfl) e15 Fs5 d68 71 rfl fun T17 X17 e17 => ?_
    refine zR X17 hx d71 rfl rfl 72 rfl ?_
    refine zP X17 hx hZ hown (tw hw 47 rfl) e17 Fs1 d72 75 rfl fun T18 X18 e18 => ?_
    refine zCN X18 hx d75 (teq (by decide : ((1 : Int32) = (1 : Int32)))).2 78 rfl ?_
    refine zK X18 hx d78 1 rfl 79 rfl ?_
    refine zG X18 hx d79 83 (by decide) ?_
    refine zl 85 _ [] (fun t k => XS.istore X18.here hx rfl d83 rfl (l' := #[rv a, rv b, iv 0, iv 0, iv 0, iv 1, iv 1, iv 1, .unset]) rfl k) ?_
    refine zR X18 hx d85 rfl rfl 86 rfl ?_
    refine zP X18 hx hZ hown (tw hw 49 rfl) e18 Fm1 d86 89 rfl fun T19 X19 e19 => ?_
    refine zLn X19 hx hZ e19 Ar1 d89 90 rfl ?_
    refine zK X19 hx d90 1 rfl 91 rfl ?_
    refine zCN X19 hx d91 (teq (by decide : ((1 : Int32) = (1 : Int32)))).2 94 rfl ?_
    refine zR X19 hx d94 rfl rfl 95 rfl ?_
    refine zP X19 hx hZ hown (tw hw 49 rfl) e19 Fm5 d95 98 rfl fun T21 X21 e21 => ?_
    refine zR X21 hx d98 rfl rfl 99 rfl ?_
    refine zP X21 hx hZ hown (tw hw 49 rfl) e21 Fm1 d99 102 rfl fun T22 X22 e22 => ?_
    refine zK X22 hx d102 0 rfl 103 rfl ?_
    refine zIa X22 hx hZ e22 Ar1 (by decide) rfl d103 104 rfl ?_
    refine zI2 X22 hx d104 rfl 106 rfl ?_
    refine zCS X22 hx hZ hml hown (tw hw 51 rfl) (tw hw 52 rfl) (tw hw 13 rfl) (tw hw 53 rfl) (rmMbi l Z a0 hw [] m5 km5 w5 w1 (1 : Int32) h0 n0 Z0 Ar5 hn5 hn1 (Or.inl rfl)) 0 (by decide) [] rfl (lenOf pd_21 rfl) rfl (Nat.le_of_eq rfl) e22 d106 109 rfl fun T24 L24 v24 X24 ⟨Lc24, hQ24, l24⟩ => ?_
    have X24 := own_reX X24 (rfl : _ = 3) (rfl : _ = 9)
    obtain ⟨g_24, rfl, Nq24, K24, f24_0⟩ := hQ24
    have N24 := own_frApp N0 Nq24 l24
    refine zx [.ref g_24] rfl ?_
    have B25 : BI Z T24.heap g_24 (va * vb) := BI.cast ((mulpp hv5 hv1) : (((1 : Int32).toInt) * ((UI w5 * UI w1 : Nat) : Int)) = (va * vb)) f24_0
    exact own_finR X24 hx hlk hre rfl rfl d109 rfl ⟨g_24, rfl, N24, ((Keep.refl h0 []).trans K24 all0), B25⟩ (by decide) (by decide)
   by_cases c26 : ((.ref b) : Value) = (.ref a)
   ·refine zq 30 [] (fun t k => acmp X12 hx rfl (x := (.ref b)) (y := (.ref a)) rfl rfl (pc0 := 27) (pc' := 30) (same := true) rfl d27 rfl (decide_eq_true c26) (by decide) (by decide) k) ?_
    refine zI2 X12 hx d30 rfl 32 rfl ?_
    refine zq 34 [.int 20, .int 1] (fun t k => XS.bipush X12.here hx rfl d32 k) ?_
    refine zCY X12 hx d34 (flt (by decide : ¬ ((20 : Int32) < (1 : Int32)))).2.2.2 46 (by decide) ?_
    exact J14 
   ·refine zq 46 [] (fun t k => acmp X12 hx rfl (x := (.ref b)) (y := (.ref a)) rfl rfl (pc0 := 27) (pc' := 46) (same := false) rfl d27 rfl (decide_eq_false c26) (by decide) (by decide) k) ?_
    exact J14 
  ·refine zP X0 hx hZ hown (tw hw 47 rfl) e0 Fs1 d1 4 rfl fun T27 X27 e27 => ?_
   refine zN X27 hx d4 ((if0 _ _).trans (feq (by decide : ¬ ((1 : Int32) = (0 : Int32)))).1) 7 rfl ?_
   refine zR X27 hx d7 rfl rfl 8 rfl ?_
   refine zP X27 hx hZ hown (tw hw 47 rfl) e27 Fs5 d8 11 rfl fun T28 X28 e28 => ?_
   refine zY X28 hx d11 ((if0 _ _).trans (feq (by decide : ¬ ((-1 : Int32) = (0 : Int32)))).2) 18 (by decide) ?_
   refine zR X28 hx d18 rfl rfl 19 rfl ?_
   refine zP X28 hx hZ hown (tw hw 49 rfl) e28 Fm5 d19 22 rfl fun T29 X29 e29 => ?_
   refine zLn X29 hx hZ e29 Ar5 d22 23 rfl ?_
   refine zl 25 _ [] (fun t k => XS.istore X29.here hx rfl d23 rfl (l' := #[rv a, rv b, iv 0, iv 0, iv 0, iv 1, .unset, .unset, .unset]) rfl k) ?_
   refine zR X29 hx d25 rfl rfl 26 rfl ?_
   refine zR X29 hx d26 rfl rfl 27 rfl ?_
   have J31 : Ends p.tables e below (fun o U' => ∃ v L, o = .returned v ∧ QrmMulG4 Z a b va vb h0 n0 v U'.heap L ∧ FrameEnd s o U' L RrmMulG4.cells RrmMulG4.slots) (T29.setTop (mkF m 46 #[rv a, rv b, iv 0, iv 0, iv 0, iv 1, .unset, .unset, .unset] [])) := by
    refine zR X29 hx d46 rfl rfl 47 rfl ?_
    refine zP X29 hx hZ hown (tw hw 49 rfl) e29 Fm1 d47 50 rfl fun T32 X32 e32 => ?_
    refine zLn X32 hx hZ e32 Ar1 d50 51 rfl ?_
    refine zl 53 _ [] (fun t k => XS.istore X32.here hx rfl d51 rfl (l' := #[rv a, rv b, iv 0, iv 0, iv 0, iv 1, iv 1, .unset, .unset]) rfl k) ?_
    refine zI2 X32 hx d53 rfl 55 rfl ?_
    refine zq 57 [.int 80, .int 1] (fun t k => XS.bipush X32.here hx rfl d55 k) ?_
    refine zCY X32 hx d57 (tlt (by decide : ((1 : Int32) < (80 : Int32)))).1 67 (by decide) ?_
    refine zR X32 hx d67 rfl rfl 68 rfl ?_
    refine zP X32 hx hZ hown (tw hw 47 rfl) e32 Fs5 d68 71 rfl fun T34 X34 e34 => ?_
    refine zR X34 hx d71 rfl rfl 72 rfl ?_
    refine zP X34 hx hZ hown (tw hw 47 rfl) e34 Fs1 d72 75 rfl fun T35 X35 e35 => ?_
    refine zCY X35 hx d75 (feq (by decide : ¬ ((-1 : Int32) = (1 : Int32)))).2 82 (by decide) ?_
    refine zK X35 hx d82 (-1 : Int32) rfl 83 rfl ?_
    refine zl 85 _ [] (fun t k => XS.istore X35.here hx rfl d83 rfl (l' := #[rv a, rv b, iv 0, iv 0, iv 0, iv 1, iv 1, iv (-1), .unset]) rfl k) ?_
    refine zR X35 hx d85 rfl rfl 86 rfl ?_
    refine zP X35 hx hZ hown (tw hw 49 rfl) e35 Fm1 d86 89 rfl fun T36 X36 e36 => ?_
    refine zLn X36 hx hZ e36 Ar1 d89 90 rfl ?_
    refine zK X36 hx d90 1 rfl 91 rfl ?_
    refine zCN X36 hx d91 (teq (by decide : ((1 : Int32) = (1 : Int32)))).2 94 rfl ?_
    refine zR X36 hx d94 rfl rfl 95 rfl ?_
    refine zP X36 hx hZ hown (tw hw 49 rfl) e36 Fm5 d95 98 rfl fun T38 X38 e38 => ?_
    refine zR X38 hx d98 rfl rfl 99 rfl ?_
    refine zP X38 hx hZ hown (tw hw 49 rfl) e38 Fm1 d99 102 rfl fun T39 X39 e39 => ?_
    refine zK X39 hx d102 0 rfl 103 rfl ?_
    refine zIa X39 hx hZ e39 Ar1 (by decide) rfl d103 104 rfl ?_
    refine zI2 X39 hx d104 rfl 106 rfl ?_
    refine zCS X39 hx hZ hml hown (tw hw 51 rfl) (tw hw 52 rfl) (tw hw 13 rfl) (tw hw 53 rfl) (rmMbi l Z a0 hw [] m5 km5 w5 w1 (-1 : Int32) h0 n0 Z0 Ar5 hn5 hn1 (Or.inr rfl)) 0 (by decide) [] rfl (lenOf pd_21 rfl) rfl (Nat.le_of_eq rfl) e39 d106 109 rfl fun T41 L41 v41 X41 ⟨Lc41, hQ41, l41⟩ => ?_
    have X41 := own_reX X41 (rfl : _ = 3) (rfl : _ = 9)
    obtain ⟨g_41, rfl, Nq41, K41, f41_0⟩ := hQ41
    have N41 := own_frApp N0 Nq41 l41
    refine zx [.ref g_41] rfl ?_
    have B42 : BI Z T41.heap g_41 (va * vb) := BI.cast ((mulnp hv5 hv1) : (((-1 : Int32).toInt) * ((UI w5 * UI w1 : Nat) : Int)) = (va * vb)) f41_0
    exact own_finR X41 hx hlk hre rfl rfl d109 rfl ⟨g_41, rfl, N41, ((Keep.refl h0 []).trans K41 all0), B42⟩ (by decide) (by decide)
   by_cases c43 : ((.ref b) : Value) = (.ref a)
   ·refine zq 30 [] (fun t k => acmp X29 hx rfl (x := (.ref b)) (y := (.ref a)) rfl rfl (pc0 := 27) (pc' := 30) (same := true) rfl d27 rfl (decide_eq_true c43) (by decide) (by decide) k) ?_
    refine zI2 X29 hx d30 rfl 32 rfl ?_
    refine zq 34 [.int 20, .int 1] (fun t k => XS.bipush X29.here hx rfl d32 k) ?_
    refine zCY X29 hx d34 (flt (by decide : ¬ ((20 : Int32) < (1 : Int32)))).2.2.2 46 (by decide) ?_
    exact J31 
   ·refine zq 46 [] (fun t k => acmp X29 hx rfl (x := (.ref b)) (y := (.ref a)) rfl rfl (pc0 := 27) (pc' := 46) (same := false) rfl d27 rfl (decide_eq_false c43) (by decide) (by decide) k) ?_
    exact J31 
  ·exfalso; have qn_a := UI_ne hn5; have l_w5 := UI_lt w5; have l_u5 := UI_lt u5; omega
  ·exfalso; have qn_a := UI_ne hn5; have l_w5 := UI_lt w5; have l_u5 := UI_lt u5; omega
 ·refine zR X0 hx d0 rfl rfl 1 rfl ?_
  rcases id p_BI_a with ⟨m44, km44, Eb44, Fm44, Em44, (⟨Fs44, Ar44, hv44⟩ | ⟨w44, hn44, Ar44, (⟨Fs44, hv44⟩ | ⟨Fs44, hv44⟩)⟩ | ⟨w44, u44, hn44, Ar44, (⟨Fs44, hv44⟩ | ⟨Fs44, hv44⟩)⟩)⟩
  ·refine zP X0 hx hZ hown (tw hw 47 rfl) e0 Fs1 d1 4 rfl fun T45 X45 e45 => ?_
   refine zN X45 hx d4 ((if0 _ _).trans (feq (by decide : ¬ ((-1 : Int32) = (0 : Int32)))).1) 7 rfl ?_
   refine zR X45 hx d7 rfl rfl 8 rfl ?_
   refine zP X45 hx hZ hown (tw hw 47 rfl) e45 Fs44 d8 11 rfl fun T46 X46 e46 => ?_
   refine zN X46 hx d11 ((if0 _ _).trans (teq (by decide : ((0 : Int32) = (0 : Int32)))).2) 14 rfl ?_
   obtain ⟨T47, X47, e47, st47⟩ := getS (host := "") X46 hx hZ hown (tw hw 15 rfl) Via.refl e46 (SZ.ext X00.2) (g := (mkF m 14 #[rv a, rv b, iv 0, iv 0, iv 0, .unset, .unset, .unset, .unset] [])) rfl d14
   refine zt 17 [.ref zA] st47 ?_
   have B48 : BI Z h0 zA (va * vb) := BI.cast ((by rw [hv44]; exact (Int.zero_mul vb).symm) : (0 : Int) = (va * vb)) (BZ.ext X00.2)
   exact own_finR X47 hx hlk hre rfl rfl d17 e47 ⟨zA, rfl, N0, (Keep.refl h0 []), B48⟩ (by decide) (by decide)
  ·refine zP X0 hx hZ hown (tw hw 47 rfl) e0 Fs1 d1 4 rfl fun T49 X49 e49 => ?_
   refine zN X49 hx d4 ((if0 _ _).trans (feq (by decide : ¬ ((-1 : Int32) = (0 : Int32)))).1) 7 rfl ?_
   refine zR X49 hx d7 rfl rfl 8 rfl ?_
   refine zP X49 hx hZ hown (tw hw 47 rfl) e49 Fs44 d8 11 rfl fun T50 X50 e50 => ?_
   refine zY X50 hx d11 ((if0 _ _).trans (feq (by decide : ¬ ((1 : Int32) = (0 : Int32)))).2) 18 (by decide) ?_
   refine zR X50 hx d18 rfl rfl 19 rfl ?_
   refine zP X50 hx hZ hown (tw hw 49 rfl) e50 Fm44 d19 22 rfl fun T51 X51 e51 => ?_
   refine zLn X51 hx hZ e51 Ar44 d22 23 rfl ?_
   refine zl 25 _ [] (fun t k => XS.istore X51.here hx rfl d23 rfl (l' := #[rv a, rv b, iv 0, iv 0, iv 0, iv 1, .unset, .unset, .unset]) rfl k) ?_
   refine zR X51 hx d25 rfl rfl 26 rfl ?_
   refine zR X51 hx d26 rfl rfl 27 rfl ?_
   have J53 : Ends p.tables e below (fun o U' => ∃ v L, o = .returned v ∧ QrmMulG4 Z a b va vb h0 n0 v U'.heap L ∧ FrameEnd s o U' L RrmMulG4.cells RrmMulG4.slots) (T51.setTop (mkF m 46 #[rv a, rv b, iv 0, iv 0, iv 0, iv 1, .unset, .unset, .unset] [])) := by
    refine zR X51 hx d46 rfl rfl 47 rfl ?_
    refine zP X51 hx hZ hown (tw hw 49 rfl) e51 Fm1 d47 50 rfl fun T54 X54 e54 => ?_
    refine zLn X54 hx hZ e54 Ar1 d50 51 rfl ?_
    refine zl 53 _ [] (fun t k => XS.istore X54.here hx rfl d51 rfl (l' := #[rv a, rv b, iv 0, iv 0, iv 0, iv 1, iv 1, .unset, .unset]) rfl k) ?_
    refine zI2 X54 hx d53 rfl 55 rfl ?_
    refine zq 57 [.int 80, .int 1] (fun t k => XS.bipush X54.here hx rfl d55 k) ?_
    refine zCY X54 hx d57 (tlt (by decide : ((1 : Int32) < (80 : Int32)))).1 67 (by decide) ?_
    refine zR X54 hx d67 rfl rfl 68 rfl ?_
    refine zP X54 hx hZ hown (tw hw 47 rfl) e54 Fs44 d68 71 rfl fun T56 X56 e56 => ?_
    refine zR X56 hx d71 rfl rfl 72 rfl ?_
    refine zP X56 hx hZ hown (tw hw 47 rfl) e56 Fs1 d72 75 rfl fun T57 X57 e57 => ?_
    refine zCY X57 hx d75 (feq (by decide : ¬ ((1 : Int32) = (-1 : Int32)))).2 82 (by decide) ?_
    refine zK X57 hx d82 (-1 : Int32) rfl 83 rfl ?_
    refine zl 85 _ [] (fun t k => XS.istore X57.here hx rfl d83 rfl (l' := #[rv a, rv b, iv 0, iv 0, iv 0, iv 1, iv 1, iv (-1), .unset]) rfl k) ?_
    refine zR X57 hx d85 rfl rfl 86 rfl ?_
    refine zP X57 hx hZ hown (tw hw 49 rfl) e57 Fm1 d86 89 rfl fun T58 X58 e58 => ?_
    refine zLn X58 hx hZ e58 Ar1 d89 90 rfl ?_
    refine zK X58 hx d90 1 rfl 91 rfl ?_
    refine zCN X58 hx d91 (teq (by decide : ((1 : Int32) = (1 : Int32)))).2 94 rfl ?_
    refine zR X58 hx d94 rfl rfl 95 rfl ?_
    refine zP X58 hx hZ hown (tw hw 49 rfl) e58 Fm44 d95 98 rfl fun T60 X60 e60 => ?_
    refine zR X60 hx d98 rfl rfl 99 rfl ?_
    refine zP X60 hx hZ hown (tw hw 49 rfl) e60 Fm1 d99 102 rfl fun T61 X61 e61 => ?_
    refine zK X61 hx d102 0 rfl 103 rfl ?_
    refine zIa X61 hx hZ e61 Ar1 (by decide) rfl d103 104 rfl ?_
    refine zI2 X61 hx d104 rfl 106 rfl ?_
    refine zCS X61 hx hZ hml hown (tw hw 51 rfl) (tw hw 52 rfl) (tw hw 13 rfl) (tw hw 53 rfl) (rmMbi l Z a0 hw [] m44 km44 w44 w1 (-1 : Int32) h0 n0 Z0 Ar44 hn44 hn1 (Or.inr rfl)) 0 (by decide) [] rfl (lenOf pd_21 rfl) rfl (Nat.le_of_eq rfl) e61 d106 109 rfl fun T63 L63 v63 X63 ⟨Lc63, hQ63, l63⟩ => ?_
    have X63 := own_reX X63 (rfl : _ = 3) (rfl : _ = 9)
    obtain ⟨g_63, rfl, Nq63, K63, f63_0⟩ := hQ63
    have N63 := own_frApp N0 Nq63 l63
    refine zx [.ref g_63] rfl ?_
    have B64 : BI Z T63.heap g_63 (va * vb) := BI.cast ((mulpn hv44 hv1) : (((-1 : Int32).toInt) * ((UI w44 * UI w1 : Nat) : Int)) = (va * vb)) f63_0
    exact own_finR X63 hx hlk hre rfl rfl d109 rfl ⟨g_63, rfl, N63, ((Keep.refl h0 []).trans K63 all0), B64⟩ (by decide) (by decide)
   by_cases c65 : ((.ref b) : Value) = (.ref a)
   ·refine zq 30 [] (fun t k => acmp X51 hx rfl (x := (.ref b)) (y := (.ref a)) rfl rfl (pc0 := 27) (pc' := 30) (same := true) rfl d27 rfl (decide_eq_true c65) (by decide) (by decide) k) ?_
    refine zI2 X51 hx d30 rfl 32 rfl ?_
    refine zq 34 [.int 20, .int 1] (fun t k => XS.bipush X51.here hx rfl d32 k) ?_
    refine zCY X51 hx d34 (flt (by decide : ¬ ((20 : Int32) < (1 : Int32)))).2.2.2 46 (by decide) ?_
    exact J53 
   ·refine zq 46 [] (fun t k => acmp X51 hx rfl (x := (.ref b)) (y := (.ref a)) rfl rfl (pc0 := 27) (pc' := 46) (same := false) rfl d27 rfl (decide_eq_false c65) (by decide) (by decide) k) ?_
    exact J53 
  ·refine zP X0 hx hZ hown (tw hw 47 rfl) e0 Fs1 d1 4 rfl fun T66 X66 e66 => ?_
   refine zN X66 hx d4 ((if0 _ _).trans (feq (by decide : ¬ ((-1 : Int32) = (0 : Int32)))).1) 7 rfl ?_
   refine zR X66 hx d7 rfl rfl 8 rfl ?_
   refine zP X66 hx hZ hown (tw hw 47 rfl) e66 Fs44 d8 11 rfl fun T67 X67 e67 => ?_
   refine zY X67 hx d11 ((if0 _ _).trans (feq (by decide : ¬ ((-1 : Int32) = (0 : Int32)))).2) 18 (by decide) ?_
   refine zR X67 hx d18 rfl rfl 19 rfl ?_
   refine zP X67 hx hZ hown (tw hw 49 rfl) e67 Fm44 d19 22 rfl fun T68 X68 e68 => ?_
   refine zLn X68 hx hZ e68 Ar44 d22 23 rfl ?_
   refine zl 25 _ [] (fun t k => XS.istore X68.here hx rfl d23 rfl (l' := #[rv a, rv b, iv 0, iv 0, iv 0, iv 1, .unset, .unset, .unset]) rfl k) ?_
   refine zR X68 hx d25 rfl rfl 26 rfl ?_
   refine zR X68 hx d26 rfl rfl 27 rfl ?_
   have J70 : Ends p.tables e below (fun o U' => ∃ v L, o = .returned v ∧ QrmMulG4 Z a b va vb h0 n0 v U'.heap L ∧ FrameEnd s o U' L RrmMulG4.cells RrmMulG4.slots) (T68.setTop (mkF m 46 #[rv a, rv b, iv 0, iv 0, iv 0, iv 1, .unset, .unset, .unset] [])) := by
    refine zR X68 hx d46 rfl rfl 47 rfl ?_
    refine zP X68 hx hZ hown (tw hw 49 rfl) e68 Fm1 d47 50 rfl fun T71 X71 e71 => ?_
    refine zLn X71 hx hZ e71 Ar1 d50 51 rfl ?_
    refine zl 53 _ [] (fun t k => XS.istore X71.here hx rfl d51 rfl (l' := #[rv a, rv b, iv 0, iv 0, iv 0, iv 1, iv 1, .unset, .unset]) rfl k) ?_
    refine zI2 X71 hx d53 rfl 55 rfl ?_
    refine zq 57 [.int 80, .int 1] (fun t k => XS.bipush X71.here hx rfl d55 k) ?_
    refine zCY X71 hx d57 (tlt (by decide : ((1 : Int32) < (80 : Int32)))).1 67 (by decide) ?_
    refine zR X71 hx d67 rfl rfl 68 rfl ?_
    refine zP X71 hx hZ hown (tw hw 47 rfl) e71 Fs44 d68 71 rfl fun T73 X73 e73 => ?_
    refine zR X73 hx d71 rfl rfl 72 rfl ?_
    refine zP X73 hx hZ hown (tw hw 47 rfl) e73 Fs1 d72 75 rfl fun T74 X74 e74 => ?_
    refine zCN X74 hx d75 (teq (by decide : ((-1 : Int32) = (-1 : Int32)))).2 78 rfl ?_
    refine zK X74 hx d78 1 rfl 79 rfl ?_
    refine zG X74 hx d79 83 (by decide) ?_
    refine zl 85 _ [] (fun t k => XS.istore X74.here hx rfl d83 rfl (l' := #[rv a, rv b, iv 0, iv 0, iv 0, iv 1, iv 1, iv 1, .unset]) rfl k) ?_
    refine zR X74 hx d85 rfl rfl 86 rfl ?_
    refine zP X74 hx hZ hown (tw hw 49 rfl) e74 Fm1 d86 89 rfl fun T75 X75 e75 => ?_
    refine zLn X75 hx hZ e75 Ar1 d89 90 rfl ?_
    refine zK X75 hx d90 1 rfl 91 rfl ?_
    refine zCN X75 hx d91 (teq (by decide : ((1 : Int32) = (1 : Int32)))).2 94 rfl ?_
    refine zR X75 hx d94 rfl rfl 95 rfl ?_
    refine zP X75 hx hZ hown (tw hw 49 rfl) e75 Fm44 d95 98 rfl fun T77 X77 e77 => ?_
    refine zR X77 hx d98 rfl rfl 99 rfl ?_
    refine zP X77 hx hZ hown (tw hw 49 rfl) e77 Fm1 d99 102 rfl fun T78 X78 e78 => ?_
    refine zK X78 hx d102 0 rfl 103 rfl ?_
    refine zIa X78 hx hZ e78 Ar1 (by decide) rfl d103 104 rfl ?_
    refine zI2 X78 hx d104 rfl 106 rfl ?_
    refine zCS X78 hx hZ hml hown (tw hw 51 rfl) (tw hw 52 rfl) (tw hw 13 rfl) (tw hw 53 rfl) (rmMbi l Z a0 hw [] m44 km44 w44 w1 (1 : Int32) h0 n0 Z0 Ar44 hn44 hn1 (Or.inl rfl)) 0 (by decide) [] rfl (lenOf pd_21 rfl) rfl (Nat.le_of_eq rfl) e78 d106 109 rfl fun T80 L80 v80 X80 ⟨Lc80, hQ80, l80⟩ => ?_
    have X80 := own_reX X80 (rfl : _ = 3) (rfl : _ = 9)
    obtain ⟨g_80, rfl, Nq80, K80, f80_0⟩ := hQ80
    have N80 := own_frApp N0 Nq80 l80
    refine zx [.ref g_80] rfl ?_
    have B81 : BI Z T80.heap g_80 (va * vb) := BI.cast ((mulnn hv44 hv1) : (((1 : Int32).toInt) * ((UI w44 * UI w1 : Nat) : Int)) = (va * vb)) f80_0
    exact own_finR X80 hx hlk hre rfl rfl d109 rfl ⟨g_80, rfl, N80, ((Keep.refl h0 []).trans K80 all0), B81⟩ (by decide) (by decide)
   by_cases c82 : ((.ref b) : Value) = (.ref a)
   ·refine zq 30 [] (fun t k => acmp X68 hx rfl (x := (.ref b)) (y := (.ref a)) rfl rfl (pc0 := 27) (pc' := 30) (same := true) rfl d27 rfl (decide_eq_true c82) (by decide) (by decide) k) ?_
    refine zI2 X68 hx d30 rfl 32 rfl ?_
    refine zq 34 [.int 20, .int 1] (fun t k => XS.bipush X68.here hx rfl d32 k) ?_
    refine zCY X68 hx d34 (flt (by decide : ¬ ((20 : Int32) < (1 : Int32)))).2.2.2 46 (by decide) ?_
    exact J70 
   ·refine zq 46 [] (fun t k => acmp X68 hx rfl (x := (.ref b)) (y := (.ref a)) rfl rfl (pc0 := 27) (pc' := 46) (same := false) rfl d27 rfl (decide_eq_false c82) (by decide) (by decide) k) ?_
    exact J70 
  ·exfalso; have qn_a := UI_ne hn44; have l_w44 := UI_lt w44; have l_u44 := UI_lt u44; omega
  ·exfalso; have qn_a := UI_ne hn44; have l_w44 := UI_lt w44; have l_u44 := UI_lt u44; omega
 ·exfalso; have qn_b := UI_ne hn1; have l_w1 := UI_lt w1; have l_u1 := UI_lt u1; omega
 ·exfalso; have qn_b := UI_ne hn1; have l_w1 := UI_lt w1; have l_u1 := UI_lt u1; omega
def QrmMulG (Z : State) (a : Addr) (b : Addr) (va : Int) (vb : Int) (h0 : Heap) (n0 : Nat) (v : Option Value) (h : Heap) (L : List Loc) : Prop := ∃ g : Addr, v = some (.ref g) ∧ Fr n0 L ∧ Keep h0 h [] ∧ (BI Z h g (va * vb))
abbrev RrmMulG : Room := { frames := 5, cells := 3, slots := 9, locals := 104 }
theorem rmMulG (l : Launch) (Z : State) (a0 : Array Value) (hw : ∀ d ∈ tables_1, d.before a0 Z = true) (ws : List Jvm.Cond) (a : Addr) (b : Addr) (va : Int) (vb : Int) (h0 : Heap) (n0 : Nat) (Z0 : n0 ≤ h0.size) (zA oA pA nA : Addr) (kP kN : ClassId) (vP vN : List Value) (G0 : Gl Z zA oA pA nA kP kN vP vN) (X00 : Old Z n0 h0) (p_BI_a : BI Z h0 a va) (p_BI_b : BI Z h0 b vb) (ba : va.natAbs < 4294967296) (bb : vb.natAbs < 4294967296) : Mf l Z Nm40 jdk_2097_method_40_code 2 (Option.some (Jvm.ClassFile.FieldType.object "java/math/BigInteger")) ws RrmMulG #[(.ref a), (.ref b)] h0 (QrmMulG Z a b va vb h0 n0) := by
 refine own_entry (plainFor_of_name pn_java_math_BigInteger) #[rv a, rv b] (fun _ => rfl) fun p e s m below meth c s₁ hx hby hml hown hnm hlk hre hZ X0 e0 => ?_
 have N0 := Fr.nil n0
 obtain ⟨d0, d1, d2, d3, d4, d5, d8, -⟩ := D_40 hby
 obtain ⟨SZ, BZ, SO, BO, SP, AP, hcP, SN, AN, hcN⟩ := id G0
 refine zR X0 hx d0 rfl rfl 1 rfl ?_
 refine zR X0 hx d1 rfl rfl 2 rfl ?_
 refine zK X0 hx d2 0 rfl 3 rfl ?_
 refine zK X0 hx d3 0 rfl 4 rfl ?_
 refine zK X0 hx d4 0 rfl 5 rfl ?_
 refine zCP X0 hx hZ hml hown (tw hw 42 rfl) (tw hw 44 rfl) (tw hw 13 rfl) (tw hw 46 rfl) (tw hw 45 rfl) (tw hw 43 rfl) (rmMulG4 l Z a0 hw [] a b va vb h0 n0 Z0 zA oA pA nA kP kN vP vN G0 X00 p_BI_a p_BI_b ba bb) 0 (by decide) a [] rfl rfl (lenOf pd_22 rfl) rfl (Nat.le_of_eq rfl) e0 (BI.exa p_BI_a) d5 8 rfl fun T1 L1 v1 X1 ⟨Lc1, hQ1, l1⟩ => ?_
 have X1 := own_reX X1 (rfl : _ = 3) (rfl : _ = 9)
 obtain ⟨g_1, rfl, Nq1, K1, f1_0⟩ := hQ1
 have N1 := own_frApp N0 Nq1 l1
 refine zx [.ref g_1] rfl ?_
 exact own_finR X1 hx hlk hre rfl rfl d8 rfl ⟨g_1, rfl, N1, ((Keep.refl h0 []).trans K1 all0), f1_0⟩ (by decide) (by decide)
def QrmMulR (Z : State) (r1 : Addr) (r2 : Addr) (nu : Addr) (de : Addr) (nw : Addr) (df : Addr) (va : Int) (vb : Int) (h0 : Heap) (n0 : Nat) (v : Option Value) (h : Heap) (L : List Loc) : Prop := ∃ x : Addr, ∃ nu : Addr, ∃ de : Addr, v = some (.ref x) ∧ Fr n0 L ∧ Keep h0 h [] ∧ (Exa Z h x "com/example/curves_to_bounds/curvestobounds/curve/Rational") ∧ (Fld Z h x "com/example/curves_to_bounds/curvestobounds/curve/Rational" "numerator" "Ljava/math/BigInteger;" (.ref nu)) ∧ (Fld Z h x "com/example/curves_to_bounds/curvestobounds/curve/Rational" "denominator" "Ljava/math/BigInteger;" (.ref de)) ∧ (BI Z h nu (va * vb)) ∧ (BI Z h de (1 : Int))
abbrev RrmMulR : Room := { frames := 7, cells := 31, slots := 166, locals := 117 }
theorem ef_rmMulR (m : MethodId) (r1 : Addr) (r2 : Addr)  : entryFrame m #[(.ref r1), (.ref r2)] 2 = mkF m 0 #[.val (.ref r1), .val (.ref r2)] [] := by first | (simp [entryFrame, mkF, argsToLocals, maxLocals, Value.category]; done) | rfl
theorem rmMulR (l : Launch) (Z : State) (a0 : Array Value) (hw : ∀ d ∈ tables_1, d.before a0 Z = true) (ws : List Jvm.Cond) (r1 : Addr) (r2 : Addr) (nu : Addr) (de : Addr) (nw : Addr) (df : Addr) (va : Int) (vb : Int) (h0 : Heap) (n0 : Nat) (Z0 : n0 ≤ h0.size) (zA oA pA nA : Addr) (kP kN : ClassId) (vP vN : List Value) (G0 : Gl Z zA oA pA nA kP kN vP vN) (X00 : Old Z n0 h0) (p_Exa_r1 : Exa Z h0 r1 "com/example/curves_to_bounds/curvestobounds/curve/Rational") (p_Fld_r1_numerator : Fld Z h0 r1 "com/example/curves_to_bounds/curvestobounds/curve/Rational" "numerator" "Ljava/math/BigInteger;" (.ref nu)) (p_Fld_r1_denominator : Fld Z h0 r1 "com/example/curves_to_bounds/curvestobounds/curve/Rational" "denominator" "Ljava/math/BigInteger;" (.ref de)) (p_Exa_r2 : Exa Z h0 r2 "com/example/curves_to_bounds/curvestobounds/curve/Rational") (p_Fld_r2_numerator : Fld Z h0 r2 "com/example/curves_to_bounds/curvestobounds/curve/Rational" "numerator" "Ljava/math/BigInteger;" (.ref nw)) (p_Fld_r2_denominator : Fld Z h0 r2 "com/example/curves_to_bounds/curvestobounds/curve/Rational" "denominator" "Ljava/math/BigInteger;" (.ref df)) (p_BI_nu : BI Z h0 nu va) (p_BI_de : BI Z h0 de (1 : Int)) (p_BI_nw : BI Z h0 nw vb) (p_BI_df : BI Z h0 df (1 : Int)) (ba : va.natAbs < 4294967296) (bb : vb.natAbs < 4294967296) :
    MetFree l Nm51 (head1 (Jvm.Cond.code Nm51 prog_31_method_13_code 2 (Option.some (Jvm.ClassFile.FieldType.object "com/example/curves_to_bounds/curvestobounds/curve/Rational")) :: ws) RrmMulR) (fun aA U => aA = #[(.ref r1), (.ref r2)] ∧ Z.Warmed39 U.vm ∧ U.heap = h0 ∧ CHv Z consts_1 U.vm h0) (fun _ _ _ _ _ => True) (fun _ U o U' => ∃ v L, o = .returned v ∧ QrmMulR Z r1 r2 nu de nw df va vb h0 n0 v U'.heap L ∧ CHr Z consts_1 U.vm U.heap U'.vm U'.heap ∧ ReturnedEndW U o U' L RrmMulR.cells RrmMulR.slots) := by
 refine MetFree.of_bodySF (plainFor_of_name pn_com_example_curves_to_bounds_curvestobounds_curve_Rational) hisR ?_
 intro p e s m args below meth c s₁ Bd hml0 hP hK
 obtain ⟨rfl, hZ, hh, CH0⟩ := hP
 have hx := Bd.exec
 have hby := Bd.bytes
 have hml : c.maxLocals = 2 := hml0
 have hown : s.vm.findClass "com/example/curves_to_bounds/curvestobounds/curve/Rational" = some m.cls := findClass_of_methodNamed Bd.named
 have hnm := (name_of_methodNamed Bd.named Bd.method).1
 have hlk : meth.locks = false := BodyLoose.notSynchronized Bd
 have X0 : Stand p l e RrmMulR (s.setVm s.vm) m #[(.ref r1), (.ref r2)] below meth c s₁ [] 0 0 := Stand.of_body Bd
 have e0 : s₁.heap = h0 := by rw [← hh, Bd.state]; rfl
 have N0 := Fr.nil n0
 obtain ⟨SZ, BZ, SO, BO, SP, AP, hcP, SN, AN, hcN⟩ := id G0
 obtain ⟨d0, d1, d4, d5, d8, d11, d12, d15, d16, d19, d22, d25, -⟩ := D_51 hby
 have hS0 : s.Since s.vm 0 := (State.WarmedH.refl s).since 0
 have CR0 : CHr Z consts_1 s.vm h0 s.vm h0 := CHr.refl CH0
 show Ends p.tables e below (fun o U' => ∃ v L, o = .returned v ∧ QrmMulR Z r1 r2 nu de nw df va vb h0 n0 v U'.heap L ∧ CHr Z consts_1 s.vm s.heap U'.vm U'.heap ∧ ReturnedEndW s o U' L RrmMulR.cells RrmMulR.slots) (s₁.setTop (entryFrame m #[(.ref r1), (.ref r2)] 2))
 refine Ends.step (fun t k => castTop (ef_rmMulR m r1 r2 ) k) ?_
 refine zR X0 hx d0 rfl rfl 1 rfl ?_
 refine zP X0 hx hZ hown (tw hw 23 rfl) e0 p_Fld_r1_numerator d1 4 rfl fun T1 X1 e1 => ?_
 refine zR X1 hx d4 rfl rfl 5 rfl ?_
 refine zP X1 hx hZ hown (tw hw 23 rfl) e1 p_Fld_r2_numerator d5 8 rfl fun T2 X2 e2 => ?_
 refine zCV X2 hx hZ hml hown (tw hw 37 rfl) (tw hw 38 rfl) (tw hw 13 rfl) (tw hw 41 rfl) (tw hw 40 rfl) (tw hw 39 rfl) (rmMulG l Z a0 hw [] nu nw va vb h0 n0 Z0 zA oA pA nA kP kN vP vN G0 X00 p_BI_nu p_BI_nw ba bb) 0 (by decide) nu [] rfl rfl (lenOf pd_16 rfl) rfl (Nat.le_of_eq rfl) e2 (BI.exa p_BI_nu) d8 11 rfl fun T3 L3 v3 X3 ⟨Lc3, hQ3, l3⟩ => ?_
 have X3 := own_reX X3 (rfl : _ = 3) (rfl : _ = 9)
 obtain ⟨g_3, rfl, Nq3, K3, f3_0⟩ := hQ3
 have N3 := own_frApp N0 Nq3 l3
 refine zx [.ref g_3] rfl ?_
 refine zR X3 hx d11 rfl rfl 12 rfl ?_
 have F4 := (p_Fld_r1_denominator.keep K3 nin0)
 refine zP X3 hx hZ hown (tw hw 25 rfl) rfl F4 d12 15 rfl fun T5 X5 e5 => ?_
 refine zR X5 hx d15 rfl rfl 16 rfl ?_
 have F6 := (p_Fld_r2_denominator.keep K3 nin0)
 refine zP X5 hx hZ hown (tw hw 25 rfl) e5 F6 d16 19 rfl fun T7 X7 e7 => ?_
 have F8 := ((BI.exa p_BI_de).keep K3)
 have F9 := (BI.keep p_BI_de ((Keep.refl h0 []).trans K3 all0))
 have F10 := (BI.keep p_BI_df ((Keep.refl h0 []).trans K3 all0))
 have F11 := (X00.keep K3 all0)
 refine zCV X7 hx hZ hml hown (tw hw 37 rfl) (tw hw 38 rfl) (tw hw 13 rfl) (tw hw 41 rfl) (tw hw 40 rfl) (tw hw 39 rfl) (rmMul l Z a0 hw [] de df (1 : Int) T3.heap n0 (Nat.le_trans Z0 K3.1) zA oA pA nA kP kN vP vN G0 F11 F9 F10) 1 (by decide) de [.ref g_3] rfl rfl (lenOf pd_16 rfl) rfl (Nat.le_of_eq rfl) e7 F8 d19 22 rfl fun T12 L12 v12 X12 ⟨Lc12, hQ12, l12⟩ => ?_
 have X12 := own_reX X12 (rfl : _ = 5) (rfl : _ = 17)
 obtain ⟨g_12, rfl, Nq12, K12, f12_0⟩ := hQ12
 have N12 := own_frApp N3 Nq12 l12
 refine zx [.ref g_12, .ref g_3] rfl ?_
 have F13 := (BI.keep f3_0 ((Keep.refl T3.heap []).trans K12 all0))
 have F14 := (F11.keep K12 all0)
 have CR15 := own_chrK CR0 K3
 have CR16 := own_chrK CR15 K12
 obtain ⟨_, _, ⟨T17, L17, k17, n17⟩, -, Xs17, hs17, hg17, ⟨Lc17, hQ17, l17, y17, z17, CRc17⟩, st17⟩ := callSS X12 hx (y := Nm35) hown (mvT hZ (tw hw 86 rfl)) (mvT hZ (tw hw 87 rfl)) (mvT hZ (tw hw 7 rfl)) (mvT hZ (tw hw 88 rfl)) (by decide) (backOfSH (s := s) (vm0 := s.vm) (W := 0) (rmVb l Z a0 hw [] g_3 g_12 (va * vb) T12.heap n0 (Nat.le_trans Z0 (Nat.le_trans K3.1 K12.1)) zA oA pA nA kP kN vP vN G0 F14 F13 f12_0) hZ (tw hw 88 rfl) (tw hw 7 rfl) (by decide) (by decide) (own_hEL hw) CR16.1) (g := (mkF m 22 #[rv r1, rv r2] [.ref g_12, .ref g_3])) rfl (by rw [hml]; rfl) (argsL := [(.ref g_3), (.ref g_12)]) (rest := []) (lenOf pd_29 rfl) rfl (by show 2 * 0 + _ ≤ _; exact Nat.le_of_eq rfl) d22 (fun _ _ => ⟨rfl, rfl, (by decide : 5 + 26 ≤ _), (by decide : 17 + 149 ≤ _)⟩)
 dsimp only [Pt.U, Pt.locs, Pt.cells, Pt.slots] at Xs17 hs17 hg17 l17 y17 z17 st17 hQ17 CRc17
 have Xs17 := own_rY Xs17 y17 z17 (rfl : _ = 31) (rfl : _ = 166)
 obtain ⟨X17, hS17, hZ17, hown17⟩ := rebS hS0 (Nat.le_trans (Nat.zero_le _) (Nat.le_of_eq (congrArg Array.size (Eq.symm rfl)))) Xs17 hs17 hg17 hZ hown
 have CR17 := CR16.trans CRc17
 obtain ⟨x_17, nu_17, de_17, rfl, Nq17, K17, f17_0, f17_1, f17_2, f17_3, f17_4⟩ := hQ17
 have N17 := own_frApp N12 Nq17 l17
 refine zg 25 [.ref x_17] st17 ?_
 exact own_finRW X17 hS17 hx hlk hh (own_hEL hw) (Nat.le_refl _) CR17 hZ17 Bd.returns rfl rfl d25 rfl ⟨x_17, nu_17, de_17, rfl, N17, ((((Keep.refl h0 []).trans K3 all0).trans K12 all0).trans K17 all0), f17_0, f17_1, f17_2, f17_3, f17_4⟩ (by decide) (by decide)
def QrmTmp (Z : State) (r1 : Addr) (r2 : Addr) (nu : Addr) (de : Addr) (nw : Addr) (df : Addr) (va : Int) (vb : Int) (h0 : Heap) (n0 : Nat) (v : Option Value) (h : Heap) (L : List Loc) : Prop := v = some (.int (0 : Int32)) ∧ Fr n0 L ∧ Keep h0 h []
abbrev RrmTmp : Room := { frames := 8, cells := 38, slots := 192, locals := 130 }
theorem ef_rmTmp (m : MethodId) (r1 : Addr) (r2 : Addr)  : entryFrame m #[(.ref r1), (.ref r2)] 2 = mkF m 0 #[.val (.ref r1), .val (.ref r2)] [] := by first | (simp [entryFrame, mkF, argsToLocals, maxLocals, Value.category]; done) | rfl
theorem rmTmp (l : Launch) (Z : State) (a0 : Array Value) (hw : ∀ d ∈ tables_1, d.before a0 Z = true) (ws : List Jvm.Cond) (r1 : Addr) (r2 : Addr) (nu : Addr) (de : Addr) (nw : Addr) (df : Addr) (va : Int) (vb : Int) (h0 : Heap) (n0 : Nat) (Z0 : n0 ≤ h0.size) (zA oA pA nA : Addr) (kP kN : ClassId) (vP vN : List Value) (G0 : Gl Z zA oA pA nA kP kN vP vN) (X00 : Old Z n0 h0) (p_Exa_r1 : Exa Z h0 r1 "com/example/curves_to_bounds/curvestobounds/curve/Rational") (p_Fld_r1_numerator : Fld Z h0 r1 "com/example/curves_to_bounds/curvestobounds/curve/Rational" "numerator" "Ljava/math/BigInteger;" (.ref nu)) (p_Fld_r1_denominator : Fld Z h0 r1 "com/example/curves_to_bounds/curvestobounds/curve/Rational" "denominator" "Ljava/math/BigInteger;" (.ref de)) (p_Exa_r2 : Exa Z h0 r2 "com/example/curves_to_bounds/curvestobounds/curve/Rational") (p_Fld_r2_numerator : Fld Z h0 r2 "com/example/curves_to_bounds/curvestobounds/curve/Rational" "numerator" "Ljava/math/BigInteger;" (.ref nw)) (p_Fld_r2_denominator : Fld Z h0 r2 "com/example/curves_to_bounds/curvestobounds/curve/Rational" "denominator" "Ljava/math/BigInteger;" (.ref df)) (p_BI_nu : BI Z h0 nu va) (p_BI_de : BI Z h0 de (1 : Int)) (p_BI_nw : BI Z h0 nw vb) (p_BI_df : BI Z h0 df (1 : Int)) (ba : va.natAbs < 4294967296) (bb : vb.natAbs < 4294967296) (hle : va * vb ≤ 100000) :
    MetFree l Nm52 (head1 (Jvm.Cond.code Nm52 prog_26_method_9_code 2 (Option.some Jvm.ClassFile.FieldType.boolean) :: ws) RrmTmp) (fun aA U => aA = #[(.ref r1), (.ref r2)] ∧ Z.Warmed39 U.vm ∧ U.heap = h0 ∧ CHv Z consts_1 U.vm h0) (fun _ _ _ _ _ => True) (fun _ U o U' => ∃ v L, o = .returned v ∧ QrmTmp Z r1 r2 nu de nw df va vb h0 n0 v U'.heap L ∧ CHr Z consts_1 U.vm U.heap U'.vm U'.heap ∧ ReturnedEndW U o U' L RrmTmp.cells RrmTmp.slots) := by
 refine MetFree.of_bodySF (plainFor_of_name pn_com_example_curves_to_bounds_curvestobounds_curve_Curve) hisR ?_
 intro p e s m args below meth c s₁ Bd hml0 hP hK
 obtain ⟨rfl, hZ, hh, CH0⟩ := hP
 have hx := Bd.exec
 have hby := Bd.bytes
 have hml : c.maxLocals = 2 := hml0
 have hown : s.vm.findClass "com/example/curves_to_bounds/curvestobounds/curve/Curve" = some m.cls := findClass_of_methodNamed Bd.named
 have hnm := (name_of_methodNamed Bd.named Bd.method).1
 have hlk : meth.locks = false := BodyLoose.notSynchronized Bd
 have X0 : Stand p l e RrmTmp (s.setVm s.vm) m #[(.ref r1), (.ref r2)] below meth c s₁ [] 0 0 := Stand.of_body Bd
 have e0 : s₁.heap = h0 := by rw [← hh, Bd.state]; rfl
 have N0 := Fr.nil n0
 obtain ⟨SZ, BZ, SO, BO, SP, AP, hcP, SN, AN, hcN⟩ := id G0
 obtain ⟨d0, d1, d2, d5, d8, d11, d14, d21, d22, -⟩ := D_52 hby
 have hS0 : s.Since s.vm 0 := (State.WarmedH.refl s).since 0
 have CR0 : CHr Z consts_1 s.vm h0 s.vm h0 := CHr.refl CH0
 show Ends p.tables e below (fun o U' => ∃ v L, o = .returned v ∧ QrmTmp Z r1 r2 nu de nw df va vb h0 n0 v U'.heap L ∧ CHr Z consts_1 s.vm s.heap U'.vm U'.heap ∧ ReturnedEndW s o U' L RrmTmp.cells RrmTmp.slots) (s₁.setTop (entryFrame m #[(.ref r1), (.ref r2)] 2))
 refine Ends.step (fun t k => castTop (ef_rmTmp m r1 r2 ) k) ?_
 refine zR X0 hx d0 rfl rfl 1 rfl ?_
 refine zR X0 hx d1 rfl rfl 2 rfl ?_
 obtain ⟨cq1, kq1, q1a, q1b, q1c⟩ := isOf hZ e0 p_Exa_r1
 obtain ⟨_, _, ⟨T1, L1, k1, n1⟩, -, Xs1, hs1, hg1, ⟨Lc1, hQ1, l1, y1, z1, CRc1⟩, st1⟩ := X0.virtualBackS hx (y := Nm51) (z := Nm51) hown (mvT hZ (tw hw 32 rfl)) (mvT hZ (tw hw 33 rfl)) (notFace_of_selects (args := #[]) (mvT hZ (tw hw 35 rfl))) (mvT hZ (tw hw 35 rfl)) (mvT hZ (tw hw 34 rfl)) (by decide) (backOfSH (s := s) (vm0 := s.vm) (W := 0) (rmMulR l Z a0 hw [] r1 r2 nu de nw df va vb h0 n0 Z0 zA oA pA nA kP kN vP vN G0 X00 p_Exa_r1 p_Fld_r1_numerator p_Fld_r1_denominator p_Exa_r2 p_Fld_r2_numerator p_Fld_r2_denominator p_BI_nu p_BI_de p_BI_nw p_BI_df ba bb) hZ (tw hw 36 rfl) (tw hw 7 rfl) (by decide) (by decide) (own_hEL hw) CR0.1) q1a q1c (g := (mkF m 2 #[rv r1, rv r2] [.ref r2, .ref r1])) rfl (by rw [hml]; rfl) (Steps.refl _) (argsL := [(.ref r2)]) (rest := []) (lenOf pd_30 rfl) rfl (by show 2 * 0 + _ ≤ _; exact Nat.le_of_eq rfl) d2 (fun _ _ => ⟨rfl, e0, (by decide : 0 + 31 ≤ _), (by decide : 0 + 166 ≤ _)⟩)
 dsimp only [Pt.U, Pt.locs, Pt.cells, Pt.slots] at Xs1 hs1 hg1 l1 y1 z1 st1 hQ1 CRc1
 have Xs1 := own_rY Xs1 y1 z1 (rfl : _ = 31) (rfl : _ = 166)
 obtain ⟨X1, hS1, hZ1, hown1⟩ := rebS hS0 (Nat.le_trans (Nat.zero_le _) (Nat.le_of_eq (congrArg Array.size (Eq.symm e0)))) Xs1 hs1 hg1 hZ hown
 have CR1 := CR0.trans CRc1
 obtain ⟨x_1, nu_1, de_1, rfl, Nq1, K1, f1_0, f1_1, f1_2, f1_3, f1_4⟩ := hQ1
 have N1 := own_frApp N0 Nq1 l1
 refine zg 5 [.ref x_1] st1 ?_
 refine zq 8 [.long 100000, .ref x_1] (fun t k => X1.ldc2Long hx hown1 (mvT hZ1 (tw hw 168 rfl)) (g := (mkF m 5 #[rv r1, rv r2] [.ref x_1])) rfl d5 _ k) ?_
 have F2 := (X00.keep K1 all0)
 refine zCS X1 hx hZ1 hml hown1 (tw hw 5 rfl) (tw hw 6 rfl) (tw hw 7 rfl) (tw hw 8 rfl) (rmVr l Z a0 hw [] (100000 : Int64) T1.heap n0 (Nat.le_trans Z0 K1.1) zA oA pA nA kP kN vP vN G0 F2) 1 (by decide) [.ref x_1] rfl (lenOf pd_31 rfl) rfl (Nat.le_of_eq rfl) rfl d8 11 rfl fun T3 L3 v3 X3 ⟨Lc3, hQ3, l3⟩ => ?_
 have X3 := own_reX X3 (rfl : _ = 34) (rfl : _ = 176)
 obtain ⟨x_3, nu_3, de_3, rfl, Nq3, K3, f3_0, f3_1, f3_2, f3_3, f3_4⟩ := hQ3
 have N3 := own_frApp N1 Nq3 l3
 refine zx [.ref x_3, .ref x_1] rfl ?_
 have F4 := (f1_0.keep K3)
 have F5 := (f1_1.keep K3 nin0)
 have F6 := (f1_2.keep K3 nin0)
 have F7 := (BI.keep f1_3 ((Keep.refl T1.heap []).trans K3 all0))
 have F8 := (BI.keep f1_4 ((Keep.refl T1.heap []).trans K3 all0))
 have F9 := (F2.keep K3 all0)
 refine zCV X3 hx hZ1 hml hown1 (tw hw 172 rfl) (tw hw 173 rfl) (tw hw 7 rfl) (tw hw 176 rfl) (tw hw 175 rfl) (tw hw 174 rfl) (rmCtR l Z a0 hw [] x_1 x_3 nu_1 de_1 nu_3 de_3 (va * vb) ((100000 : Int64).toInt) T3.heap n0 (Nat.le_trans Z0 (Nat.le_trans K1.1 K3.1)) zA oA pA nA kP kN vP vN G0 F9 F4 F5 F6 f3_0 f3_1 f3_2 F7 F8 f3_3 f3_4) 0 (by decide) x_1 [] rfl rfl (lenOf pd_32 rfl) rfl (Nat.le_of_eq rfl) rfl F4 d11 14 rfl fun T10 L10 v10 X10 ⟨Lc10, hQ10, l10⟩ => ?_
 have X10 := own_reX X10 (rfl : _ = 38) (rfl : _ = 192)
 obtain ⟨c_10, rfl, Nq10, K10, f10_0⟩ := hQ10
 have N10 := own_frApp N3 Nq10 l10
 refine zx [.int c_10] rfl ?_
 refine zY X10 hx d14 ((if0 _ _).trans (flt (Cm.ngt f10_0 (by have e : ((100000 : Int64).toInt) = (100000 : Int) := (by decide +kernel); rw [e]; exact hle))).2.2.2) 21 (by decide) ?_
 refine zK X10 hx d21 0 rfl 22 rfl ?_
 have CR11 := own_chrK CR1 K3
 have CR12 := own_chrK CR11 K10
 exact own_finIW X10 hS1 hx hlk hh (own_hEL hw) (Nat.le_trans (Nat.le_refl _) (Nat.le_trans K3.1 K10.1)) CR12 hZ1 (t := .boolean) Bd.returns (by simp) rfl d22 rfl ⟨rfl, N10, ((((Keep.refl h0 []).trans K1 all0).trans K3 all0).trans K10 all0)⟩ (by decide) (by decide)
def QrmRp (Z : State) (p1 : Int32) (p2 : Int32) (h0 : Heap) (n0 : Nat) (v : Option Value) (h : Heap) (L : List Loc) : Prop := v = none ∧ Fr n0 L ∧ Keep h0 h []
abbrev RrmRp : Room := { frames := 9, cells := 44, slots := 212, locals := 143 }
theorem ef_rmRp (m : MethodId) (p1 : Int32) (p2 : Int32)  : entryFrame m #[(.int p1), (.int p2)] 2 = mkF m 0 #[.val (.int p1), .val (.int p2)] [] := by first | (simp [entryFrame, mkF, argsToLocals, maxLocals, Value.category]; done) | rfl
theorem rmRp (l : Launch) (Z : State) (a0 : Array Value) (hw : ∀ d ∈ tables_1, d.before a0 Z = true) (ws : List Jvm.Cond) (p1 : Int32) (p2 : Int32) (h0 : Heap) (n0 : Nat) (Z0 : n0 ≤ h0.size) (zA oA pA nA : Addr) (kP kN : ClassId) (vP vN : List Value) (G0 : Gl Z zA oA pA nA kP kN vP vN) (X00 : Old Z n0 h0) (hle : ((p1.toInt64).toInt) * ((p2.toInt64).toInt) ≤ 100000) :
    MetFree l Nm53 (head1 (Jvm.Cond.code Nm53 prog_26_method_4_code 2 (Option.none : Option Jvm.ClassFile.FieldType) :: ws) RrmRp) (fun aA U => aA = #[(.int p1), (.int p2)] ∧ Z.Warmed39 U.vm ∧ U.heap = h0 ∧ CHv Z consts_1 U.vm h0) (fun _ _ _ _ _ => True) (fun _ U o U' => ∃ v L, o = .returned v ∧ QrmRp Z p1 p2 h0 n0 v U'.heap L ∧ CHr Z consts_1 U.vm U.heap U'.vm U'.heap ∧ ReturnedEndW U o U' L RrmRp.cells RrmRp.slots) := by
 refine MetFree.of_bodySF (plainFor_of_name pn_com_example_curves_to_bounds_curvestobounds_curve_Curve) hisR ?_
 intro p e s m args below meth c s₁ Bd hml0 hP hK
 obtain ⟨rfl, hZ, hh, CH0⟩ := hP
 have hx := Bd.exec
 have hby := Bd.bytes
 have hml : c.maxLocals = 2 := hml0
 have hown : s.vm.findClass "com/example/curves_to_bounds/curvestobounds/curve/Curve" = some m.cls := findClass_of_methodNamed Bd.named
 have hnm := (name_of_methodNamed Bd.named Bd.method).1
 have hlk : meth.locks = false := BodyLoose.notSynchronized Bd
 have X0 : Stand p l e RrmRp (s.setVm s.vm) m #[(.int p1), (.int p2)] below meth c s₁ [] 0 0 := Stand.of_body Bd
 have e0 : s₁.heap = h0 := by rw [← hh, Bd.state]; rfl
 have N0 := Fr.nil n0
 obtain ⟨SZ, BZ, SO, BO, SP, AP, hcP, SN, AN, hcN⟩ := id G0
 obtain ⟨d0, d1, d2, d5, d6, d7, d10, d13, d26, -⟩ := D_53 hby
 have hS0 : s.Since s.vm 0 := (State.WarmedH.refl s).since 0
 have CR0 : CHr Z consts_1 s.vm h0 s.vm h0 := CHr.refl CH0
 show Ends p.tables e below (fun o U' => ∃ v L, o = .returned v ∧ QrmRp Z p1 p2 h0 n0 v U'.heap L ∧ CHr Z consts_1 s.vm s.heap U'.vm U'.heap ∧ ReturnedEndW s o U' L RrmRp.cells RrmRp.slots) (s₁.setTop (entryFrame m #[(.int p1), (.int p2)] 2))
 refine Ends.step (fun t k => castTop (ef_rmRp m p1 p2 ) k) ?_
 refine zI X0 hx d0 rfl 1 rfl ?_
 refine zq 2 [.long (p1.toInt64)] (fun t k => XS.i2l X0.here hx rfl d1 rfl k) ?_
 refine zCS X0 hx hZ hml hown (tw hw 5 rfl) (tw hw 6 rfl) (tw hw 7 rfl) (tw hw 8 rfl) (rmVr l Z a0 hw [] (p1.toInt64) h0 n0 Z0 zA oA pA nA kP kN vP vN G0 X00) 0 (by decide) [] rfl (lenOf pd_31 rfl) rfl (Nat.le_of_eq rfl) e0 d2 5 rfl fun T1 L1 v1 X1 ⟨Lc1, hQ1, l1⟩ => ?_
 have X1 := own_reX X1 (rfl : _ = 3) (rfl : _ = 10)
 obtain ⟨x_1, nu_1, de_1, rfl, Nq1, K1, f1_0, f1_1, f1_2, f1_3, f1_4⟩ := hQ1
 have N1 := own_frApp N0 Nq1 l1
 refine zx [.ref x_1] rfl ?_
 refine zI X1 hx d5 rfl 6 rfl ?_
 refine zq 7 [.long (p2.toInt64), .ref x_1] (fun t k => XS.i2l X1.here hx rfl d6 rfl k) ?_
 have F2 := (X00.keep K1 all0)
 refine zCS X1 hx hZ hml hown (tw hw 5 rfl) (tw hw 6 rfl) (tw hw 7 rfl) (tw hw 8 rfl) (rmVr l Z a0 hw [] (p2.toInt64) T1.heap n0 (Nat.le_trans Z0 K1.1) zA oA pA nA kP kN vP vN G0 F2) 1 (by decide) [.ref x_1] rfl (lenOf pd_31 rfl) rfl (Nat.le_of_eq rfl) rfl d7 10 rfl fun T3 L3 v3 X3 ⟨Lc3, hQ3, l3⟩ => ?_
 have X3 := own_reX X3 (rfl : _ = 6) (rfl : _ = 20)
 obtain ⟨x_3, nu_3, de_3, rfl, Nq3, K3, f3_0, f3_1, f3_2, f3_3, f3_4⟩ := hQ3
 have N3 := own_frApp N1 Nq3 l3
 refine zx [.ref x_3, .ref x_1] rfl ?_
 have F4 := (f1_0.keep K3)
 have F5 := (f1_1.keep K3 nin0)
 have F6 := (f1_2.keep K3 nin0)
 have F7 := (BI.keep f1_3 ((Keep.refl T1.heap []).trans K3 all0))
 have F8 := (BI.keep f1_4 ((Keep.refl T1.heap []).trans K3 all0))
 have F9 := (F2.keep K3 all0)
 have CR10 := own_chrK CR0 K1
 have CR11 := own_chrK CR10 K3
 obtain ⟨_, _, ⟨T12, L12, k12, n12⟩, -, Xs12, hs12, hg12, ⟨Lc12, hQ12, l12, y12, z12, CRc12⟩, st12⟩ := callSS X3 hx (y := Nm52) hown (mvT hZ (tw hw 29 rfl)) (mvT hZ (tw hw 30 rfl)) (mvT hZ (tw hw 3 rfl)) (mvT hZ (tw hw 31 rfl)) (by decide) (backOfSH (s := s) (vm0 := s.vm) (W := 0) (rmTmp l Z a0 hw [] x_1 x_3 nu_1 de_1 nu_3 de_3 ((p1.toInt64).toInt) ((p2.toInt64).toInt) T3.heap n0 (Nat.le_trans Z0 (Nat.le_trans K1.1 K3.1)) zA oA pA nA kP kN vP vN G0 F9 F4 F5 F6 f3_0 f3_1 f3_2 F7 F8 f3_3 f3_4 (i2l_small p1) (i2l_small p2) hle) hZ (tw hw 31 rfl) (tw hw 3 rfl) (by decide) (by decide) (own_hEL hw) CR11.1) (g := (mkF m 10 #[iv p1, iv p2] [.ref x_3, .ref x_1])) rfl (by rw [hml]; rfl) (argsL := [(.ref x_1), (.ref x_3)]) (rest := []) (lenOf pd_33 rfl) rfl (by show 2 * 0 + _ ≤ _; exact Nat.le_of_eq rfl) d10 (fun _ _ => ⟨rfl, rfl, (by decide : 6 + 38 ≤ _), (by decide : 20 + 192 ≤ _)⟩)
 dsimp only [Pt.U, Pt.locs, Pt.cells, Pt.slots] at Xs12 hs12 hg12 l12 y12 z12 st12 hQ12 CRc12
 have Xs12 := own_rY Xs12 y12 z12 (rfl : _ = 44) (rfl : _ = 212)
 obtain ⟨X12, hS12, hZ12, hown12⟩ := rebS hS0 (Nat.le_trans (Nat.zero_le _) (Nat.le_of_eq (congrArg Array.size (Eq.symm rfl)))) Xs12 hs12 hg12 hZ hown
 have CR12 := CR11.trans CRc12
 obtain ⟨rfl, Nq12, K12⟩ := hQ12
 have N12 := own_frApp N3 Nq12 l12
 refine zg 13 [.int 0] st12 ?_
 refine zY X12 hx d13 ((if0 _ _).trans (teq (by decide : ((0 : Int32) = (0 : Int32)))).1) 26 (by decide) ?_
 exact own_finVW X12 hS12 hx hlk hh (own_hEL hw) (Nat.le_refl _) CR12 hZ12 Bd.returns d26 rfl ⟨rfl, N12, ((((Keep.refl h0 []).trans K1 all0).trans K3 all0).trans K12 all0)⟩ (by decide) (by decide)
def Qrm0 (Z : State) (p1 : Int32) (p2 : Int32) (h0 : Heap) (n0 : Nat) (v : Option Value) (h : Heap) (L : List Loc) : Prop := v = some (.int (1 : Int32)) ∧ Fr n0 L ∧ Keep h0 h []
theorem ef_rm0 (m : MethodId) (p1 : Int32) (p2 : Int32)  : entryFrame m #[(.int p1), (.int p2)] maxLocals = mkF m 0 #[.val (.int p1), .val (.int p2), .unset, .unset] [] := by first | (simp [entryFrame, mkF, argsToLocals, maxLocals, Value.category]; done) | rfl
theorem rm0 (l : Launch) (Z : State) (a0 : Array Value) (hw : ∀ d ∈ tables_1, d.before a0 Z = true) (ws : List Jvm.Cond) (p1 : Int32) (p2 : Int32) (h0 : Heap) (n0 : Nat) (Z0 : n0 ≤ h0.size) (zA oA pA nA : Addr) (kP kN : ClassId) (vP vN : List Value) (G0 : Gl Z zA oA pA nA kP kN vP vN) (X00 : Old Z n0 h0)  :
    MetFree l x (head1 (Jvm.Cond.code x code maxLocals ret :: ws) room_1) (fun aA U => aA = #[(.int p1), (.int p2)] ∧ Z.Warmed39 U.vm ∧ U.heap = h0 ∧ CHv Z consts_1 U.vm h0) (fun _ _ _ _ _ => True) (fun _ U o U' => ∃ v L, o = .returned v ∧ Qrm0 Z p1 p2 h0 n0 v U'.heap L ∧ CHr Z consts_1 U.vm U.heap U'.vm U'.heap ∧ ReturnedEndW U o U' L 88 2368) := by
 refine MetFree.of_bodySF (plainFor_of_name pn_com_example_curves_to_bounds_curvestobounds_curve_CurveRequirePairsPinLaw) hisR ?_
 intro p e s m args below meth c s₁ Bd hml0 hP hK
 obtain ⟨rfl, hZ, hh, CH0⟩ := hP
 have hx := Bd.exec
 have hby := Bd.bytes
 have hml : c.maxLocals = 4 := hml0
 have hown : s.vm.findClass "com/example/curves_to_bounds/curvestobounds/curve/CurveRequirePairsPinLaw" = some m.cls := findClass_of_methodNamed Bd.named
 have hnm := (name_of_methodNamed Bd.named Bd.method).1
 have hlk : meth.locks = false := BodyLoose.notSynchronized Bd
 have X0 : Stand p l e room_1 (s.setVm s.vm) m #[(.int p1), (.int p2)] below meth c s₁ [] 0 0 := Stand.of_body Bd
 have e0 : s₁.heap = h0 := by rw [← hh, Bd.state]; rfl
 have N0 := Fr.nil n0
 obtain ⟨SZ, BZ, SO, BO, SP, AP, hcP, SN, AN, hcN⟩ := id G0
 have hS0 : s.Since s.vm 0 := (State.WarmedH.refl s).since 0
 have CR0 : CHr Z consts_1 s.vm h0 s.vm h0 := CHr.refl CH0
 show Ends p.tables e below (fun o U' => ∃ v L, o = .returned v ∧ Qrm0 Z p1 p2 h0 n0 v U'.heap L ∧ CHr Z consts_1 s.vm s.heap U'.vm U'.heap ∧ ReturnedEndW s o U' L 88 2368) (s₁.setTop (entryFrame m #[(.int p1), (.int p2)] maxLocals))
 refine Ends.step (fun t k => castTop (ef_rm0 m p1 p2 ) k) ?_
 refine zI X0 hx (hb hby at_0) rfl 1 rfl ?_
 refine zq 2 [.long (p1.toInt64)] (fun t k => XS.i2l X0.here hx rfl (hb hby at_1) rfl k) ?_
 refine zI X0 hx (hb hby at_2) rfl 3 rfl ?_
 refine zq 4 [.long (p2.toInt64), .long (p1.toInt64)] (fun t k => XS.i2l X0.here hx rfl (hb hby at_3) rfl k) ?_
 refine zq 5 [.long ((p1.toInt64) * (p2.toInt64))] (fun t k => XS.lmul X0.here hx rfl (hb hby at_4) rfl k) ?_
 refine zl 6 _ [] (fun t k => XS.lstoreN X0.here hx rfl (hb hby at_5) rfl (l' := #[iv p1, iv p2, .val (.long ((p1.toInt64) * (p2.toInt64))), .second]) rfl k) ?_
 refine zJ X0 hx (hb hby at_6) rfl 7 rfl ?_
 refine zq 10 [.long 100000, .long ((p1.toInt64) * (p2.toInt64))] (fun t k => X0.ldc2Long hx hown (mvT hZ (tw hw 0 rfl)) (g := (mkF m 7 #[iv p1, iv p2, .val (.long ((p1.toInt64) * (p2.toInt64))), .second] [.long ((p1.toInt64) * (p2.toInt64))])) rfl (hb hby at_7) _ k) ?_
 refine zq 11 [.int (lcmpW ((p1.toInt64) * (p2.toInt64)) (100000 : Int64))] (fun t k => XS.lcmp X0.here hx rfl (hb hby at_10) rfl k) ?_
 by_cases c1 : (0 : Int32) < (lcmpW ((p1.toInt64) * (p2.toInt64)) (100000 : Int64))
 ·refine zN X0 hx (hb hby at_11) ((if0 _ _).trans (tlt c1).2.2.2) 14 rfl ?_
  refine zK X0 hx (hb hby at_14) 1 rfl 15 rfl ?_
  exact own_finIW X0 hS0 hx hlk hh (own_hEL hw) (Nat.zero_le _) CR0 hZ (t := .boolean) Bd.returns (by simp) rfl (hb hby at_15) e0 ⟨rfl, N0, (Keep.refl h0 [])⟩ (by decide) (by decide)
 ·refine zY X0 hx (hb hby at_11) ((if0 _ _).trans (flt c1).2.2.2) 16 (by decide) ?_
  refine zI X0 hx (hb hby at_16) rfl 17 rfl ?_
  refine zI X0 hx (hb hby at_17) rfl 18 rfl ?_
  obtain ⟨_, _, ⟨T2, L2, k2, n2⟩, -, Xs2, hs2, hg2, ⟨Lc2, hQ2, l2, y2, z2, CRc2⟩, st2⟩ := callSS X0 hx (y := Nm53) hown (mvT hZ (tw hw 1 rfl)) (mvT hZ (tw hw 2 rfl)) (mvT hZ (tw hw 3 rfl)) (mvT hZ (tw hw 4 rfl)) (by decide) (backOfSH (s := s) (vm0 := s.vm) (W := 0) (rmRp l Z a0 hw [] p1 p2 h0 n0 Z0 zA oA pA nA kP kN vP vN G0 X00 (le3 c1)) hZ (tw hw 4 rfl) (tw hw 3 rfl) (by decide) (by decide) (own_hEL hw) CR0.1) (g := (mkF m 18 #[iv p1, iv p2, .val (.long ((p1.toInt64) * (p2.toInt64))), .second] [.int p2, .int p1])) rfl (by rw [hml]; rfl) (argsL := [(.int p1), (.int p2)]) (rest := []) (lenOf pd_27 rfl) rfl (by show 2 * 0 + _ ≤ _; exact Nat.le_of_eq rfl) (hb hby at_18) (fun _ _ => ⟨rfl, e0, (by decide : 0 + 44 ≤ _), (by decide : 0 + 212 ≤ _)⟩)
  dsimp only [Pt.U, Pt.locs, Pt.cells, Pt.slots] at Xs2 hs2 hg2 l2 y2 z2 st2 hQ2 CRc2
  have Xs2 := own_rY Xs2 y2 z2 (rfl : _ = 44) (rfl : _ = 212)
  obtain ⟨X2, hS2, hZ2, hown2⟩ := rebS hS0 (Nat.le_trans (Nat.zero_le _) (Nat.le_of_eq (congrArg Array.size (Eq.symm e0)))) Xs2 hs2 hg2 hZ hown
  have CR2 := CR0.trans CRc2
  obtain ⟨rfl, Nq2, K2⟩ := hQ2
  have N2 := own_frApp N0 Nq2 l2
  refine zg 21 [] st2 ?_
  refine zK X2 hx (hb hby at_21) 1 rfl 22 rfl ?_
  exact own_finIW X2 hS2 hx hlk hh (own_hEL hw) (Nat.le_refl _) CR2 hZ2 (t := .boolean) Bd.returns (by simp) rfl (hb hby at_22) rfl ⟨rfl, N2, ((Keep.refl h0 []).trans K2 all0)⟩ (by decide) (by decide)
theorem comes_1 {Post : Tables → Env → Array Value → State → Outcome → State → Prop} (hpost : ∀ tb e args s v u, (limb_1_1.after args s (.returned v) u = true ∧ limb_1_2.after args s (.returned v) u = true ∧ True) → ReturnedEndW s (.returned v) u (Jvm.fieldLocs frame_1_writes args s ++ Jvm.arrayLocs frame_1_arrays args s ++ Jvm.staticLocs frame_1_statics s) 88 2368 → Post tb e args s (.returned v) u) :
    ArmFor flags0 classFile x code maxLocals ret World_1 tables_1 room_1 Calls_1 rest_1 Pre_1 Post := by
  intro l hfl _ _ p e ha hc hk s m args below hf hA hF happ hP
  obtain ⟨hcalls, hrest, hpre⟩ := hP
  obtain ⟨-, -, -, hnamed, -, -, -, hat⟩ := (Spec.applies_iff hf).mp happ
  obtain ⟨hg, hn⟩ := and_e (Cond.before_iff.mp (show (Jvm.Cond.and given_1 narrow_1).before args s = true from hpre))
  obtain ⟨hcount, hg1⟩ := and_e hg
  obtain ⟨w0, w1, rfl⟩ : ∃ w0 w1 : Value, args = #[w0, w1] := by
    have hs : args.size = 2 := by simpa [Cond.value, given_1] using hcount
    obtain ⟨L⟩ := args
    match L, hs with
    | [w0, w1], _ => exact ⟨w0, w1, rfl⟩
  have hw := fun d (hd : d ∈ tables_1) => atoms_spec (ws := Jvm.Cond.code x code maxLocals ret :: tables_1) hat d (List.mem_cons_of_mem _ hd)
  have hfit : Fit s := fun {y c} hc i hi => by
    obtain ⟨ha, rfl⟩ := Array.getElem?_eq_some_iff.mp hc
    have q := List.all_eq_true.mp ((Array.all_eq_true_iff_forall_mem.mp hF) _ (Array.getElem_mem ha)) i (List.mem_range.mpr hi)
    simpa [Array.getElem?_eq_getElem hi] using q
  obtain ⟨ga0, hg2⟩ := and_e hg1
  obtain ⟨i0, ei0⟩ := is_v ga0
  obtain rfl : w0 = (.int i0) := Option.some.inj ei0
  obtain ⟨i1, ei1⟩ := is_v hg2
  obtain rfl : w1 = (.int i1) := Option.some.inj ei1
  obtain ⟨hsets, hown0⟩ := atoms_of _ (rest_1_c_eq ▸ (show rest_1_c.before _ s = true from hrest))
  obtain ⟨zA, evz⟩ := exa_v (Cond.before_iff.mp (hsets _ (List.mem_of_getElem? (i := 2) rfl)))
  have SZ : Sta s s.heap "java/math/BigInteger" "ZERO" "Ljava/math/BigInteger;" (.ref zA) := Sta.start evz (Or.inl (hsets _ (List.mem_of_getElem? (i := 1) rfl)))
  have BZ : BI s s.heap zA (0 : Int) := own_biZ hfit evz (hsets _ (List.mem_of_getElem? (i := 2) rfl)) (hsets _ (List.mem_of_getElem? (i := 3) rfl)) (hsets _ (List.mem_of_getElem? (i := 4) rfl)) (hsets _ (List.mem_of_getElem? (i := 5) rfl)) (hsets _ (List.mem_of_getElem? (i := 6) rfl))
  obtain ⟨oA, evo⟩ := exa_v (Cond.before_iff.mp (hsets _ (List.mem_of_getElem? (i := 9) rfl)))
  have SO : Sta s s.heap "java/math/BigInteger" "ONE" "Ljava/math/BigInteger;" (.ref oA) := Sta.start evo (Or.inl (hsets _ (List.mem_of_getElem? (i := 8) rfl)))
  have BO : BI s s.heap oA (1 : Int) := own_biW hfit evo (hsets _ (List.mem_of_getElem? (i := 9) rfl)) (hsets _ (List.mem_of_getElem? (i := 10) rfl)) (hsets _ (List.mem_of_getElem? (i := 11) rfl)) (hsets _ (List.mem_of_getElem? (i := 12) rfl)) (hsets _ (List.mem_of_getElem? (i := 13) rfl)) (hsets _ (List.mem_of_getElem? (i := 14) rfl)) (by decide) (Or.inl ⟨rfl, by decide +kernel⟩)
  obtain ⟨pA, evp⟩ := arr_v (Cond.before_iff.mp (hsets _ (List.mem_of_getElem? (i := 23) rfl)))
  have SP : Sta s s.heap "java/math/BigInteger" "posConst" "[Ljava/math/BigInteger;" (.ref pA) := Sta.start evp (Or.inl (hsets _ (List.mem_of_getElem? (i := 16) rfl)))
  obtain ⟨cP, ArP⟩ := Arr.start evp (Cond.before_iff.mp (hsets _ (List.mem_of_getElem? (i := 23) rfl)))
  obtain ⟨qP, lP⟩ := own_lenZ evp ArP (Cond.before_iff.mp (hsets _ (List.mem_of_getElem? (i := 25) rfl)))
  have AP : Arv s s.heap pA cP.cls (.object "java/math/BigInteger") (17 : Int32) cP.slots.toList .null := own_arvAll hfit ArP qP lP (by decide)
  have eP1 : ∃ a, cP.slots.toList.getD 1 .null = .ref a ∧ BI s s.heap a ((1 : Nat) : Int) := own_biEl hfit evp ArP (j := (1 : Int32)) (by decide) (by decide +kernel) (hsets _ (List.mem_of_getElem? (i := 27) rfl)) (hsets _ (List.mem_of_getElem? (i := 28) rfl)) (hsets _ (List.mem_of_getElem? (i := 29) rfl)) (hsets _ (List.mem_of_getElem? (i := 30) rfl)) (hsets _ (List.mem_of_getElem? (i := 31) rfl)) (hsets _ (List.mem_of_getElem? (i := 32) rfl)) (by decide) (Or.inl ⟨rfl, by decide +kernel⟩)
  have eP2 : ∃ a, cP.slots.toList.getD 2 .null = .ref a ∧ BI s s.heap a ((2 : Nat) : Int) := own_biEl hfit evp ArP (j := (2 : Int32)) (by decide) (by decide +kernel) (hsets _ (List.mem_of_getElem? (i := 34) rfl)) (hsets _ (List.mem_of_getElem? (i := 35) rfl)) (hsets _ (List.mem_of_getElem? (i := 36) rfl)) (hsets _ (List.mem_of_getElem? (i := 37) rfl)) (hsets _ (List.mem_of_getElem? (i := 38) rfl)) (hsets _ (List.mem_of_getElem? (i := 39) rfl)) (by decide) (Or.inl ⟨rfl, by decide +kernel⟩)
  have eP3 : ∃ a, cP.slots.toList.getD 3 .null = .ref a ∧ BI s s.heap a ((3 : Nat) : Int) := own_biEl hfit evp ArP (j := (3 : Int32)) (by decide) (by decide +kernel) (hsets _ (List.mem_of_getElem? (i := 40) rfl)) (hsets _ (List.mem_of_getElem? (i := 41) rfl)) (hsets _ (List.mem_of_getElem? (i := 42) rfl)) (hsets _ (List.mem_of_getElem? (i := 43) rfl)) (hsets _ (List.mem_of_getElem? (i := 44) rfl)) (hsets _ (List.mem_of_getElem? (i := 45) rfl)) (by decide) (Or.inl ⟨rfl, by decide +kernel⟩)
  have eP4 : ∃ a, cP.slots.toList.getD 4 .null = .ref a ∧ BI s s.heap a ((4 : Nat) : Int) := own_biEl hfit evp ArP (j := (4 : Int32)) (by decide) (by decide +kernel) (hsets _ (List.mem_of_getElem? (i := 46) rfl)) (hsets _ (List.mem_of_getElem? (i := 47) rfl)) (hsets _ (List.mem_of_getElem? (i := 48) rfl)) (hsets _ (List.mem_of_getElem? (i := 49) rfl)) (hsets _ (List.mem_of_getElem? (i := 50) rfl)) (hsets _ (List.mem_of_getElem? (i := 51) rfl)) (by decide) (Or.inl ⟨rfl, by decide +kernel⟩)
  have eP5 : ∃ a, cP.slots.toList.getD 5 .null = .ref a ∧ BI s s.heap a ((5 : Nat) : Int) := own_biEl hfit evp ArP (j := (5 : Int32)) (by decide) (by decide +kernel) (hsets _ (List.mem_of_getElem? (i := 52) rfl)) (hsets _ (List.mem_of_getElem? (i := 53) rfl)) (hsets _ (List.mem_of_getElem? (i := 54) rfl)) (hsets _ (List.mem_of_getElem? (i := 55) rfl)) (hsets _ (List.mem_of_getElem? (i := 56) rfl)) (hsets _ (List.mem_of_getElem? (i := 57) rfl)) (by decide) (Or.inl ⟨rfl, by decide +kernel⟩)
  have eP6 : ∃ a, cP.slots.toList.getD 6 .null = .ref a ∧ BI s s.heap a ((6 : Nat) : Int) := own_biEl hfit evp ArP (j := (6 : Int32)) (by decide) (by decide +kernel) (hsets _ (List.mem_of_getElem? (i := 58) rfl)) (hsets _ (List.mem_of_getElem? (i := 59) rfl)) (hsets _ (List.mem_of_getElem? (i := 60) rfl)) (hsets _ (List.mem_of_getElem? (i := 61) rfl)) (hsets _ (List.mem_of_getElem? (i := 62) rfl)) (hsets _ (List.mem_of_getElem? (i := 63) rfl)) (by decide) (Or.inl ⟨rfl, by decide +kernel⟩)
  have eP7 : ∃ a, cP.slots.toList.getD 7 .null = .ref a ∧ BI s s.heap a ((7 : Nat) : Int) := own_biEl hfit evp ArP (j := (7 : Int32)) (by decide) (by decide +kernel) (hsets _ (List.mem_of_getElem? (i := 64) rfl)) (hsets _ (List.mem_of_getElem? (i := 65) rfl)) (hsets _ (List.mem_of_getElem? (i := 66) rfl)) (hsets _ (List.mem_of_getElem? (i := 67) rfl)) (hsets _ (List.mem_of_getElem? (i := 68) rfl)) (hsets _ (List.mem_of_getElem? (i := 69) rfl)) (by decide) (Or.inl ⟨rfl, by decide +kernel⟩)
  have eP8 : ∃ a, cP.slots.toList.getD 8 .null = .ref a ∧ BI s s.heap a ((8 : Nat) : Int) := own_biEl hfit evp ArP (j := (8 : Int32)) (by decide) (by decide +kernel) (hsets _ (List.mem_of_getElem? (i := 70) rfl)) (hsets _ (List.mem_of_getElem? (i := 71) rfl)) (hsets _ (List.mem_of_getElem? (i := 72) rfl)) (hsets _ (List.mem_of_getElem? (i := 73) rfl)) (hsets _ (List.mem_of_getElem? (i := 74) rfl)) (hsets _ (List.mem_of_getElem? (i := 75) rfl)) (by decide) (Or.inl ⟨rfl, by decide +kernel⟩)
  have eP9 : ∃ a, cP.slots.toList.getD 9 .null = .ref a ∧ BI s s.heap a ((9 : Nat) : Int) := own_biEl hfit evp ArP (j := (9 : Int32)) (by decide) (by decide +kernel) (hsets _ (List.mem_of_getElem? (i := 76) rfl)) (hsets _ (List.mem_of_getElem? (i := 77) rfl)) (hsets _ (List.mem_of_getElem? (i := 78) rfl)) (hsets _ (List.mem_of_getElem? (i := 79) rfl)) (hsets _ (List.mem_of_getElem? (i := 80) rfl)) (hsets _ (List.mem_of_getElem? (i := 81) rfl)) (by decide) (Or.inl ⟨rfl, by decide +kernel⟩)
  have eP10 : ∃ a, cP.slots.toList.getD 10 .null = .ref a ∧ BI s s.heap a ((10 : Nat) : Int) := own_biEl hfit evp ArP (j := (10 : Int32)) (by decide) (by decide +kernel) (hsets _ (List.mem_of_getElem? (i := 83) rfl)) (hsets _ (List.mem_of_getElem? (i := 84) rfl)) (hsets _ (List.mem_of_getElem? (i := 85) rfl)) (hsets _ (List.mem_of_getElem? (i := 86) rfl)) (hsets _ (List.mem_of_getElem? (i := 87) rfl)) (hsets _ (List.mem_of_getElem? (i := 88) rfl)) (by decide) (Or.inl ⟨rfl, by decide +kernel⟩)
  have eP11 : ∃ a, cP.slots.toList.getD 11 .null = .ref a ∧ BI s s.heap a ((11 : Nat) : Int) := own_biEl hfit evp ArP (j := (11 : Int32)) (by decide) (by decide +kernel) (hsets _ (List.mem_of_getElem? (i := 89) rfl)) (hsets _ (List.mem_of_getElem? (i := 90) rfl)) (hsets _ (List.mem_of_getElem? (i := 91) rfl)) (hsets _ (List.mem_of_getElem? (i := 92) rfl)) (hsets _ (List.mem_of_getElem? (i := 93) rfl)) (hsets _ (List.mem_of_getElem? (i := 94) rfl)) (by decide) (Or.inl ⟨rfl, by decide +kernel⟩)
  have eP12 : ∃ a, cP.slots.toList.getD 12 .null = .ref a ∧ BI s s.heap a ((12 : Nat) : Int) := own_biEl hfit evp ArP (j := (12 : Int32)) (by decide) (by decide +kernel) (hsets _ (List.mem_of_getElem? (i := 95) rfl)) (hsets _ (List.mem_of_getElem? (i := 96) rfl)) (hsets _ (List.mem_of_getElem? (i := 97) rfl)) (hsets _ (List.mem_of_getElem? (i := 98) rfl)) (hsets _ (List.mem_of_getElem? (i := 99) rfl)) (hsets _ (List.mem_of_getElem? (i := 100) rfl)) (by decide) (Or.inl ⟨rfl, by decide +kernel⟩)
  have eP13 : ∃ a, cP.slots.toList.getD 13 .null = .ref a ∧ BI s s.heap a ((13 : Nat) : Int) := own_biEl hfit evp ArP (j := (13 : Int32)) (by decide) (by decide +kernel) (hsets _ (List.mem_of_getElem? (i := 101) rfl)) (hsets _ (List.mem_of_getElem? (i := 102) rfl)) (hsets _ (List.mem_of_getElem? (i := 103) rfl)) (hsets _ (List.mem_of_getElem? (i := 104) rfl)) (hsets _ (List.mem_of_getElem? (i := 105) rfl)) (hsets _ (List.mem_of_getElem? (i := 106) rfl)) (by decide) (Or.inl ⟨rfl, by decide +kernel⟩)
  have eP14 : ∃ a, cP.slots.toList.getD 14 .null = .ref a ∧ BI s s.heap a ((14 : Nat) : Int) := own_biEl hfit evp ArP (j := (14 : Int32)) (by decide) (by decide +kernel) (hsets _ (List.mem_of_getElem? (i := 107) rfl)) (hsets _ (List.mem_of_getElem? (i := 108) rfl)) (hsets _ (List.mem_of_getElem? (i := 109) rfl)) (hsets _ (List.mem_of_getElem? (i := 110) rfl)) (hsets _ (List.mem_of_getElem? (i := 111) rfl)) (hsets _ (List.mem_of_getElem? (i := 112) rfl)) (by decide) (Or.inl ⟨rfl, by decide +kernel⟩)
  have eP15 : ∃ a, cP.slots.toList.getD 15 .null = .ref a ∧ BI s s.heap a ((15 : Nat) : Int) := own_biEl hfit evp ArP (j := (15 : Int32)) (by decide) (by decide +kernel) (hsets _ (List.mem_of_getElem? (i := 113) rfl)) (hsets _ (List.mem_of_getElem? (i := 114) rfl)) (hsets _ (List.mem_of_getElem? (i := 115) rfl)) (hsets _ (List.mem_of_getElem? (i := 116) rfl)) (hsets _ (List.mem_of_getElem? (i := 117) rfl)) (hsets _ (List.mem_of_getElem? (i := 118) rfl)) (by decide) (Or.inl ⟨rfl, by decide +kernel⟩)
  have eP16 : ∃ a, cP.slots.toList.getD 16 .null = .ref a ∧ BI s s.heap a ((16 : Nat) : Int) := own_biEl hfit evp ArP (j := (16 : Int32)) (by decide) (by decide +kernel) (hsets _ (List.mem_of_getElem? (i := 119) rfl)) (hsets _ (List.mem_of_getElem? (i := 120) rfl)) (hsets _ (List.mem_of_getElem? (i := 121) rfl)) (hsets _ (List.mem_of_getElem? (i := 122) rfl)) (hsets _ (List.mem_of_getElem? (i := 123) rfl)) (hsets _ (List.mem_of_getElem? (i := 124) rfl)) (by decide) (Or.inl ⟨rfl, by decide +kernel⟩)
  have hP : ∀ i : Nat, 1 ≤ i → i ≤ 16 → ∃ a, cP.slots.toList.getD i .null = .ref a ∧ BI s s.heap a (i : Int) := fun i h1 h2 => by
    rcases (by omega : i = 1 ∨ i = 2 ∨ i = 3 ∨ i = 4 ∨ i = 5 ∨ i = 6 ∨ i = 7 ∨ i = 8 ∨ i = 9 ∨ i = 10 ∨ i = 11 ∨ i = 12 ∨ i = 13 ∨ i = 14 ∨ i = 15 ∨ i = 16) with rfl | rfl | rfl | rfl | rfl | rfl | rfl | rfl | rfl | rfl | rfl | rfl | rfl | rfl | rfl | rfl
    · exact eP1
    · exact eP2
    · exact eP3
    · exact eP4
    · exact eP5
    · exact eP6
    · exact eP7
    · exact eP8
    · exact eP9
    · exact eP10
    · exact eP11
    · exact eP12
    · exact eP13
    · exact eP14
    · exact eP15
    · exact eP16
  obtain ⟨nA, evn⟩ := arr_v (Cond.before_iff.mp (hsets _ (List.mem_of_getElem? (i := 129) rfl)))
  have SN : Sta s s.heap "java/math/BigInteger" "negConst" "[Ljava/math/BigInteger;" (.ref nA) := Sta.start evn (Or.inl (hsets _ (List.mem_of_getElem? (i := 126) rfl)))
  obtain ⟨cN, ArN⟩ := Arr.start evn (Cond.before_iff.mp (hsets _ (List.mem_of_getElem? (i := 129) rfl)))
  obtain ⟨qN, lN⟩ := own_lenZ evn ArN (Cond.before_iff.mp (hsets _ (List.mem_of_getElem? (i := 131) rfl)))
  have AN : Arv s s.heap nA cN.cls (.object "java/math/BigInteger") (17 : Int32) cN.slots.toList .null := own_arvAll hfit ArN qN lN (by decide)
  have eN1 : ∃ a, cN.slots.toList.getD 1 .null = .ref a ∧ BI s s.heap a (-((1 : Nat) : Int)) := own_biEl hfit evn ArN (j := (1 : Int32)) (by decide) (by decide +kernel) (hsets _ (List.mem_of_getElem? (i := 133) rfl)) (hsets _ (List.mem_of_getElem? (i := 134) rfl)) (hsets _ (List.mem_of_getElem? (i := 135) rfl)) (hsets _ (List.mem_of_getElem? (i := 136) rfl)) (hsets _ (List.mem_of_getElem? (i := 137) rfl)) (hsets _ (List.mem_of_getElem? (i := 138) rfl)) (by decide) (Or.inr ⟨rfl, by decide +kernel⟩)
  have eN2 : ∃ a, cN.slots.toList.getD 2 .null = .ref a ∧ BI s s.heap a (-((2 : Nat) : Int)) := own_biEl hfit evn ArN (j := (2 : Int32)) (by decide) (by decide +kernel) (hsets _ (List.mem_of_getElem? (i := 139) rfl)) (hsets _ (List.mem_of_getElem? (i := 140) rfl)) (hsets _ (List.mem_of_getElem? (i := 141) rfl)) (hsets _ (List.mem_of_getElem? (i := 142) rfl)) (hsets _ (List.mem_of_getElem? (i := 143) rfl)) (hsets _ (List.mem_of_getElem? (i := 144) rfl)) (by decide) (Or.inr ⟨rfl, by decide +kernel⟩)
  have eN3 : ∃ a, cN.slots.toList.getD 3 .null = .ref a ∧ BI s s.heap a (-((3 : Nat) : Int)) := own_biEl hfit evn ArN (j := (3 : Int32)) (by decide) (by decide +kernel) (hsets _ (List.mem_of_getElem? (i := 145) rfl)) (hsets _ (List.mem_of_getElem? (i := 146) rfl)) (hsets _ (List.mem_of_getElem? (i := 147) rfl)) (hsets _ (List.mem_of_getElem? (i := 148) rfl)) (hsets _ (List.mem_of_getElem? (i := 149) rfl)) (hsets _ (List.mem_of_getElem? (i := 150) rfl)) (by decide) (Or.inr ⟨rfl, by decide +kernel⟩)
  have eN4 : ∃ a, cN.slots.toList.getD 4 .null = .ref a ∧ BI s s.heap a (-((4 : Nat) : Int)) := own_biEl hfit evn ArN (j := (4 : Int32)) (by decide) (by decide +kernel) (hsets _ (List.mem_of_getElem? (i := 151) rfl)) (hsets _ (List.mem_of_getElem? (i := 152) rfl)) (hsets _ (List.mem_of_getElem? (i := 153) rfl)) (hsets _ (List.mem_of_getElem? (i := 154) rfl)) (hsets _ (List.mem_of_getElem? (i := 155) rfl)) (hsets _ (List.mem_of_getElem? (i := 156) rfl)) (by decide) (Or.inr ⟨rfl, by decide +kernel⟩)
  have eN5 : ∃ a, cN.slots.toList.getD 5 .null = .ref a ∧ BI s s.heap a (-((5 : Nat) : Int)) := own_biEl hfit evn ArN (j := (5 : Int32)) (by decide) (by decide +kernel) (hsets _ (List.mem_of_getElem? (i := 157) rfl)) (hsets _ (List.mem_of_getElem? (i := 158) rfl)) (hsets _ (List.mem_of_getElem? (i := 159) rfl)) (hsets _ (List.mem_of_getElem? (i := 160) rfl)) (hsets _ (List.mem_of_getElem? (i := 161) rfl)) (hsets _ (List.mem_of_getElem? (i := 162) rfl)) (by decide) (Or.inr ⟨rfl, by decide +kernel⟩)
  have eN6 : ∃ a, cN.slots.toList.getD 6 .null = .ref a ∧ BI s s.heap a (-((6 : Nat) : Int)) := own_biEl hfit evn ArN (j := (6 : Int32)) (by decide) (by decide +kernel) (hsets _ (List.mem_of_getElem? (i := 163) rfl)) (hsets _ (List.mem_of_getElem? (i := 164) rfl)) (hsets _ (List.mem_of_getElem? (i := 165) rfl)) (hsets _ (List.mem_of_getElem? (i := 166) rfl)) (hsets _ (List.mem_of_getElem? (i := 167) rfl)) (hsets _ (List.mem_of_getElem? (i := 168) rfl)) (by decide) (Or.inr ⟨rfl, by decide +kernel⟩)
  have eN7 : ∃ a, cN.slots.toList.getD 7 .null = .ref a ∧ BI s s.heap a (-((7 : Nat) : Int)) := own_biEl hfit evn ArN (j := (7 : Int32)) (by decide) (by decide +kernel) (hsets _ (List.mem_of_getElem? (i := 169) rfl)) (hsets _ (List.mem_of_getElem? (i := 170) rfl)) (hsets _ (List.mem_of_getElem? (i := 171) rfl)) (hsets _ (List.mem_of_getElem? (i := 172) rfl)) (hsets _ (List.mem_of_getElem? (i := 173) rfl)) (hsets _ (List.mem_of_getElem? (i := 174) rfl)) (by decide) (Or.inr ⟨rfl, by decide +kernel⟩)
  have eN8 : ∃ a, cN.slots.toList.getD 8 .null = .ref a ∧ BI s s.heap a (-((8 : Nat) : Int)) := own_biEl hfit evn ArN (j := (8 : Int32)) (by decide) (by decide +kernel) (hsets _ (List.mem_of_getElem? (i := 175) rfl)) (hsets _ (List.mem_of_getElem? (i := 176) rfl)) (hsets _ (List.mem_of_getElem? (i := 177) rfl)) (hsets _ (List.mem_of_getElem? (i := 178) rfl)) (hsets _ (List.mem_of_getElem? (i := 179) rfl)) (hsets _ (List.mem_of_getElem? (i := 180) rfl)) (by decide) (Or.inr ⟨rfl, by decide +kernel⟩)
  have eN9 : ∃ a, cN.slots.toList.getD 9 .null = .ref a ∧ BI s s.heap a (-((9 : Nat) : Int)) := own_biEl hfit evn ArN (j := (9 : Int32)) (by decide) (by decide +kernel) (hsets _ (List.mem_of_getElem? (i := 181) rfl)) (hsets _ (List.mem_of_getElem? (i := 182) rfl)) (hsets _ (List.mem_of_getElem? (i := 183) rfl)) (hsets _ (List.mem_of_getElem? (i := 184) rfl)) (hsets _ (List.mem_of_getElem? (i := 185) rfl)) (hsets _ (List.mem_of_getElem? (i := 186) rfl)) (by decide) (Or.inr ⟨rfl, by decide +kernel⟩)
  have eN10 : ∃ a, cN.slots.toList.getD 10 .null = .ref a ∧ BI s s.heap a (-((10 : Nat) : Int)) := own_biEl hfit evn ArN (j := (10 : Int32)) (by decide) (by decide +kernel) (hsets _ (List.mem_of_getElem? (i := 187) rfl)) (hsets _ (List.mem_of_getElem? (i := 188) rfl)) (hsets _ (List.mem_of_getElem? (i := 189) rfl)) (hsets _ (List.mem_of_getElem? (i := 190) rfl)) (hsets _ (List.mem_of_getElem? (i := 191) rfl)) (hsets _ (List.mem_of_getElem? (i := 192) rfl)) (by decide) (Or.inr ⟨rfl, by decide +kernel⟩)
  have eN11 : ∃ a, cN.slots.toList.getD 11 .null = .ref a ∧ BI s s.heap a (-((11 : Nat) : Int)) := own_biEl hfit evn ArN (j := (11 : Int32)) (by decide) (by decide +kernel) (hsets _ (List.mem_of_getElem? (i := 193) rfl)) (hsets _ (List.mem_of_getElem? (i := 194) rfl)) (hsets _ (List.mem_of_getElem? (i := 195) rfl)) (hsets _ (List.mem_of_getElem? (i := 196) rfl)) (hsets _ (List.mem_of_getElem? (i := 197) rfl)) (hsets _ (List.mem_of_getElem? (i := 198) rfl)) (by decide) (Or.inr ⟨rfl, by decide +kernel⟩)
  have eN12 : ∃ a, cN.slots.toList.getD 12 .null = .ref a ∧ BI s s.heap a (-((12 : Nat) : Int)) := own_biEl hfit evn ArN (j := (12 : Int32)) (by decide) (by decide +kernel) (hsets _ (List.mem_of_getElem? (i := 199) rfl)) (hsets _ (List.mem_of_getElem? (i := 200) rfl)) (hsets _ (List.mem_of_getElem? (i := 201) rfl)) (hsets _ (List.mem_of_getElem? (i := 202) rfl)) (hsets _ (List.mem_of_getElem? (i := 203) rfl)) (hsets _ (List.mem_of_getElem? (i := 204) rfl)) (by decide) (Or.inr ⟨rfl, by decide +kernel⟩)
  have eN13 : ∃ a, cN.slots.toList.getD 13 .null = .ref a ∧ BI s s.heap a (-((13 : Nat) : Int)) := own_biEl hfit evn ArN (j := (13 : Int32)) (by decide) (by decide +kernel) (hsets _ (List.mem_of_getElem? (i := 205) rfl)) (hsets _ (List.mem_of_getElem? (i := 206) rfl)) (hsets _ (List.mem_of_getElem? (i := 207) rfl)) (hsets _ (List.mem_of_getElem? (i := 208) rfl)) (hsets _ (List.mem_of_getElem? (i := 209) rfl)) (hsets _ (List.mem_of_getElem? (i := 210) rfl)) (by decide) (Or.inr ⟨rfl, by decide +kernel⟩)
  have eN14 : ∃ a, cN.slots.toList.getD 14 .null = .ref a ∧ BI s s.heap a (-((14 : Nat) : Int)) := own_biEl hfit evn ArN (j := (14 : Int32)) (by decide) (by decide +kernel) (hsets _ (List.mem_of_getElem? (i := 211) rfl)) (hsets _ (List.mem_of_getElem? (i := 212) rfl)) (hsets _ (List.mem_of_getElem? (i := 213) rfl)) (hsets _ (List.mem_of_getElem? (i := 214) rfl)) (hsets _ (List.mem_of_getElem? (i := 215) rfl)) (hsets _ (List.mem_of_getElem? (i := 216) rfl)) (by decide) (Or.inr ⟨rfl, by decide +kernel⟩)
  have eN15 : ∃ a, cN.slots.toList.getD 15 .null = .ref a ∧ BI s s.heap a (-((15 : Nat) : Int)) := own_biEl hfit evn ArN (j := (15 : Int32)) (by decide) (by decide +kernel) (hsets _ (List.mem_of_getElem? (i := 217) rfl)) (hsets _ (List.mem_of_getElem? (i := 218) rfl)) (hsets _ (List.mem_of_getElem? (i := 219) rfl)) (hsets _ (List.mem_of_getElem? (i := 220) rfl)) (hsets _ (List.mem_of_getElem? (i := 221) rfl)) (hsets _ (List.mem_of_getElem? (i := 222) rfl)) (by decide) (Or.inr ⟨rfl, by decide +kernel⟩)
  have eN16 : ∃ a, cN.slots.toList.getD 16 .null = .ref a ∧ BI s s.heap a (-((16 : Nat) : Int)) := own_biEl hfit evn ArN (j := (16 : Int32)) (by decide) (by decide +kernel) (hsets _ (List.mem_of_getElem? (i := 223) rfl)) (hsets _ (List.mem_of_getElem? (i := 224) rfl)) (hsets _ (List.mem_of_getElem? (i := 225) rfl)) (hsets _ (List.mem_of_getElem? (i := 226) rfl)) (hsets _ (List.mem_of_getElem? (i := 227) rfl)) (hsets _ (List.mem_of_getElem? (i := 228) rfl)) (by decide) (Or.inr ⟨rfl, by decide +kernel⟩)
  have hN : ∀ i : Nat, 1 ≤ i → i ≤ 16 → ∃ a, cN.slots.toList.getD i .null = .ref a ∧ BI s s.heap a (-(i : Int)) := fun i h1 h2 => by
    rcases (by omega : i = 1 ∨ i = 2 ∨ i = 3 ∨ i = 4 ∨ i = 5 ∨ i = 6 ∨ i = 7 ∨ i = 8 ∨ i = 9 ∨ i = 10 ∨ i = 11 ∨ i = 12 ∨ i = 13 ∨ i = 14 ∨ i = 15 ∨ i = 16) with rfl | rfl | rfl | rfl | rfl | rfl | rfl | rfl | rfl | rfl | rfl | rfl | rfl | rfl | rfl | rfl
    · exact eN1
    · exact eN2
    · exact eN3
    · exact eN4
    · exact eN5
    · exact eN6
    · exact eN7
    · exact eN8
    · exact eN9
    · exact eN10
    · exact eN11
    · exact eN12
    · exact eN13
    · exact eN14
    · exact eN15
    · exact eN16
  have CH0 : CHv s consts_1 s.vm s.heap := fun p hp => by unfold consts_1 at hp; cases hp
  obtain ⟨n, o, h1, h2, h3, _, L, rfl, ⟨rfl, N, _⟩, _, hq⟩ := rm0 l s _ hw tables_1 i0 i1 s.heap s.heap.size (Nat.le_refl _)  zA oA pA nA cP.cls cN.cls cP.slots.toList cN.slots.toList ⟨SZ, BZ, SO, BO, SP, AP, hP, SN, AN, hN⟩ (Old.start s) p e ha hc hk s m _ below hf ((Spec.applies_iff_loose hf).mp happ).1 ⟨rfl, State.Warmed39.refl s, rfl, CH0⟩ trivial
  refine ⟨n, _, h1, h2, h3, hpost _ _ _ _ _ _ ⟨Cond.after_iff.mpr rfl, Cond.after_iff.mpr (eq_i res_at (Term.int_eval (1)) rfl), trivial⟩ ⟨hq.1, hq.2.1, hq.2.2.1, (hq.2.2.2.sift fun y hy => Or.inr (N y hy)).mono (by decide) (by decide)⟩⟩
theorem main_1_1 : Claimed_1_1 := comes_1 fun _ _ _ _ _ _ h hF => ⟨h.1, hF⟩
theorem main_1_2 : Claimed_1_2 := comes_1 fun _ _ _ _ _ _ h hF => ⟨h.2.1, hF⟩
end Jvm.Pilot.@@N@@
namespace Jvm.Pilot.@@N@@
open Jvm Jvm.ClassFile Sem Op Lib Jvm.Free Jvm.Stand Jvm.Pilot.@@N@@.Jvm.D
/-! MADE BY PROGRAM (witnessworld.py) out of the Statement's table words and the real class files: 25 classes; the members and pool entries that the words name. The judged class is class 1, her method 1. -/
namespace start1
open Jvm.ClassFile
def u (s : String) : CpInfo := .utf8 (stringToUtf16 s)
/-- a pool by its gaps: so many unusable entries, then the entry; so many at the end -/
def gap : Nat → List CpInfo → List CpInfo
  | 0, r => r
  | n + 1, r => .unusable :: gap n r
def poolList (es : List (Nat × CpInfo)) (last : Nat) : List CpInfo := es.foldr (fun e r => gap e.1 (e.2 :: r)) (gap last [])
def pool (es : List (Nat × CpInfo)) (last : Nat) : Array CpInfo := ⟨poolList es last⟩
def fileOf (pool : Array CpInfo) (this : Nat) (attrs : Array Attribute := #[]) (ms : Array MethodInfo := #[]) (fl : Nat := 33) (sup : Nat := 0) (ifs : Array Nat := #[]) (fds : Array FieldInfo := #[]) : ClassFile where
  minorVersion := 0
  majorVersion := 65
  constantPool := pool
  accessFlags := fl
  thisClass := this
  superClass := sup
  interfaces := ifs
  fields := fds
  methods := ms
  attributes := attrs
def plain (name : String) (sup : Option ClassId) : Class where
  name := name
  kind := .ordinary
  loader := none
  accessFlags := 33
  super := sup
  interfaces := #[]
  cf := none
  fields := #[]
  methods := #[]
  instanceTypes := #[]
  staticTypes := #[]
  resolved := #[]
  callSites := []
  init := .initialized
  statics := none
  mirror := none

def pool0 : Array CpInfo := pool [(5, u "<init>"), (0, u "()V"), (1, .class_ 10), (1, u "java/lang/Object"), (85, u "clone"), (0, u "()Ljava/lang/Object;")] 26

def k0c0 : Code := { maxStack := 0, maxLocals := 1, code := object_method_1_code, exceptionTable := #[], attributes := #[] }
def k0m0 : Method := { name := "<init>", desc := "()V", sig := { parameters := [], returnType := none }, accessFlags := 1, code := some k0c0 }
def k0m1 : Method := { name := "clone", desc := "()Ljava/lang/Object;", sig := { parameters := [], returnType := some (.object "java/lang/Object") }, accessFlags := 260, code := none }
/-- java/lang/Object -/
def k0 : Class := { plain "java/lang/Object" none with
  accessFlags := 33
  interfaces := #[]
  cf := some (fileOf pool0 8 #[] #[{ accessFlags := 1, nameIndex := 5, descriptorIndex := 6, attributes := #[] }, { accessFlags := 260, nameIndex := 96, descriptorIndex := 97, attributes := #[] }] 33 0 #[] #[])
  fields := #[]
  methods := #[k0m0, k0m1]
  instanceTypes := #[]
  staticTypes := #[]
  resolved := Array.replicate 124 none
  statics := none }

def pool1 : Array CpInfo := pool [(2, .class_ 4), (1, u "java/lang/Object"), (0, u "<init>"), (0, u "()V"), (0, .class_ 8), (0, u "com/example/curves_to_bounds/curvestobounds/curve/Curve"), (0, .long 100000), (1, .methodref 7 12), (0, .nameAndType 13 14), (0, u "requirePairs"), (0, u "(II)V"), (0, .class_ 16), (0, u "com/example/curves_to_bounds/curvestobounds/curve/CurveRequirePairsPinLaw"), (2, u "law"), (0, u "(II)Z")] 3

def k1m0 : Method := { name := "<init>", desc := "()V", sig := { parameters := [], returnType := none }, accessFlags := 1, code := none }
def k1c1 : Code := { maxStack := 4, maxLocals := 4, code := code, exceptionTable := #[], attributes := #[] }
def k1m1 : Method := { name := "law", desc := "(II)Z", sig := { parameters := [.int, .int], returnType := some .boolean }, accessFlags := 9, code := some k1c1 }
/-- com/example/curves_to_bounds/curvestobounds/curve/CurveRequirePairsPinLaw -/
def k1 : Class := { plain "com/example/curves_to_bounds/curvestobounds/curve/CurveRequirePairsPinLaw" (some 0) with
  accessFlags := 49
  interfaces := #[]
  cf := some (fileOf pool1 15 #[] #[{ accessFlags := 1, nameIndex := 5, descriptorIndex := 6, attributes := #[] }, { accessFlags := 9, nameIndex := 19, descriptorIndex := 20, attributes := #[] }] 49 2 #[] #[])
  fields := #[]
  methods := #[k1m0, k1m1]
  instanceTypes := #[]
  staticTypes := #[]
  resolved := Array.replicate 24 none
  statics := none }

def pool2 : Array CpInfo := pool [(2, .class_ 4), (1, u "java/lang/Object"), (3, .class_ 10), (1, u "com/example/curves_to_bounds/curvestobounds/curve/Curve"), (0, u "pieces"), (0, u "Ljava/util/List;"), (2, u "periodIndex"), (0, u "I"), (2, u "period"), (0, u "Lcom/example/curves_to_bounds/curvestobounds/curve/Rational;"), (2, u "increment"), (17, .class_ 43), (1, u "com/example/curves_to_bounds/curvestobounds/curve/Rational"), (8, u "valueOf"), (24, u "(Lcom/example/curves_to_bounds/curvestobounds/curve/Rational;)Lcom/example/curves_to_bounds/curvestobounds/curve/Rational;"), (26, .long 100000), (1, .methodref 41 107), (0, .nameAndType 52 108), (0, u "(J)Lcom/example/curves_to_bounds/curvestobounds/curve/Rational;"), (0, .methodref 41 110), (0, .nameAndType 111 112), (0, u "compareTo"), (0, u "(Lcom/example/curves_to_bounds/curvestobounds/curve/Rational;)I"), (5, .methodref 8 119), (0, .nameAndType 120 121), (0, u "tooManyPairs"), (0, u "(Lcom/example/curves_to_bounds/curvestobounds/curve/Rational;Lcom/example/curves_to_bounds/curvestobounds/curve/Rational;)Z"), (2, u "(II)V"), (2, u "requirePairs"), (22, .methodref 41 151), (0, .nameAndType 152 77), (0, u "multiply"), (114, u "ZERO"), (34, u "Lcom/example/curves_to_bounds/curvestobounds/curve/Curve;"), (0, u "MAX_PIECES")] 62

def k2c0 : Code := { maxStack := 4, maxLocals := 2, code := prog_26_method_4_code, exceptionTable := #[], attributes := #[] }
def k2m0 : Method := { name := "requirePairs", desc := "(II)V", sig := { parameters := [.int, .int], returnType := none }, accessFlags := 9, code := some k2c0 }
def k2c1 : Code := { maxStack := 3, maxLocals := 2, code := prog_26_method_9_code, exceptionTable := #[], attributes := #[] }
def k2m1 : Method := { name := "tooManyPairs", desc := "(Lcom/example/curves_to_bounds/curvestobounds/curve/Rational;Lcom/example/curves_to_bounds/curvestobounds/curve/Rational;)Z", sig := { parameters := [(.object "com/example/curves_to_bounds/curvestobounds/curve/Rational"), (.object "com/example/curves_to_bounds/curvestobounds/curve/Rational")], returnType := some .boolean }, accessFlags := 10, code := some k2c1 }
/-- com/example/curves_to_bounds/curvestobounds/curve/Curve -/
def k2 : Class := { plain "com/example/curves_to_bounds/curvestobounds/curve/Curve" (some 0) with
  accessFlags := 49
  interfaces := #[]
  cf := some (fileOf pool2 8 #[] #[{ accessFlags := 9, nameIndex := 127, descriptorIndex := 124, attributes := #[] }, { accessFlags := 10, nameIndex := 120, descriptorIndex := 121, attributes := #[] }] 49 2 #[] #[{ accessFlags := 25, nameIndex := 303, descriptorIndex := 16, attributes := #[] }, { accessFlags := 25, nameIndex := 267, descriptorIndex := 302, attributes := #[] }, { accessFlags := 18, nameIndex := 11, descriptorIndex := 12, attributes := #[] }, { accessFlags := 18, nameIndex := 15, descriptorIndex := 16, attributes := #[] }, { accessFlags := 18, nameIndex := 19, descriptorIndex := 20, attributes := #[] }, { accessFlags := 18, nameIndex := 23, descriptorIndex := 20, attributes := #[] }])
  fields := #[{ name := "MAX_PIECES", type := .int, accessFlags := 25, slot := 0, constantValue := 0 }, { name := "ZERO", type := (.object "com/example/curves_to_bounds/curvestobounds/curve/Curve"), accessFlags := 25, slot := 1, constantValue := 0 }, { name := "pieces", type := (.object "java/util/List"), accessFlags := 18, slot := 0, constantValue := 0 }, { name := "periodIndex", type := .int, accessFlags := 18, slot := 1, constantValue := 0 }, { name := "period", type := (.object "com/example/curves_to_bounds/curvestobounds/curve/Rational"), accessFlags := 18, slot := 2, constantValue := 0 }, { name := "increment", type := (.object "com/example/curves_to_bounds/curvestobounds/curve/Rational"), accessFlags := 18, slot := 3, constantValue := 0 }]
  methods := #[k2m0, k2m1]
  instanceTypes := #[(.object "java/util/List"), .int, (.object "com/example/curves_to_bounds/curvestobounds/curve/Rational"), (.object "com/example/curves_to_bounds/curvestobounds/curve/Rational")]
  staticTypes := #[.int, (.object "com/example/curves_to_bounds/curvestobounds/curve/Curve")]
  resolved := Array.replicate 366 none
  statics := none }

def pool3 : Array CpInfo := pool [(1, .class_ 2), (0, u "java/lang/Comparable"), (0, .class_ 4), (0, u "java/lang/Object")] 7

/-- java/lang/Comparable -/
def k3 : Class := { plain "java/lang/Comparable" (some 0) with
  accessFlags := 1537
  interfaces := #[]
  cf := some (fileOf pool3 1 #[] #[] 1537 3 #[] #[])
  fields := #[]
  methods := #[]
  instanceTypes := #[]
  staticTypes := #[]
  resolved := Array.replicate 12 none
  statics := none }

def pool4 : Array CpInfo := pool [(1, .methodref 2 3), (0, .class_ 4), (0, .nameAndType 5 6), (0, u "java/lang/Object"), (0, u "<init>"), (0, u "()V"), (0, .fieldref 8 9), (0, .class_ 10), (0, .nameAndType 11 12), (0, u "com/example/curves_to_bounds/curvestobounds/curve/Rational"), (0, u "numerator"), (0, u "Ljava/math/BigInteger;"), (0, .fieldref 8 14), (0, .nameAndType 15 12), (0, u "denominator"), (0, .methodref 17 18), (0, .class_ 19), (0, .nameAndType 20 21), (0, u "java/math/BigInteger"), (0, u "valueOf"), (0, u "(J)Ljava/math/BigInteger;"), (0, .fieldref 17 23), (0, .nameAndType 24 12), (0, u "ONE"), (0, .methodref 8 26), (0, .nameAndType 5 27), (0, u "(Ljava/math/BigInteger;Ljava/math/BigInteger;)V"), (0, .methodref 8 29), (0, .nameAndType 20 30), (0, u "(Ljava/math/BigInteger;Ljava/math/BigInteger;)Lcom/example/curves_to_bounds/curvestobounds/curve/Rational;"), (0, .string 11), (0, .methodref 33 34), (0, .class_ 35), (0, .nameAndType 36 37), (0, u "java/util/Objects"), (0, u "requireNonNull"), (0, u "(Ljava/lang/Object;Ljava/lang/String;)Ljava/lang/Object;"), (0, .string 15), (0, .methodref 17 40), (0, .nameAndType 41 42), (0, u "signum"), (0, u "()I"), (14, .methodref 17 58), (0, .nameAndType 59 60), (0, u "gcd"), (0, u "(Ljava/math/BigInteger;)Ljava/math/BigInteger;"), (0, .methodref 17 62), (0, .nameAndType 63 60), (0, u "divide"), (26, .methodref 17 91), (0, .nameAndType 92 60), (0, u "multiply"), (9, u "(Lcom/example/curves_to_bounds/curvestobounds/curve/Rational;)Lcom/example/curves_to_bounds/curvestobounds/curve/Rational;"), (2, u "compareTo"), (0, u "(Lcom/example/curves_to_bounds/curvestobounds/curve/Rational;)I"), (13, .methodref 17 121), (0, .nameAndType 105 122), (0, u "(Ljava/math/BigInteger;)I"), (14, u "ZERO"), (2, u "Lcom/example/curves_to_bounds/curvestobounds/curve/Rational;"), (2, .class_ 144), (0, u "java/lang/Comparable"), (0, u "MAX_DECIMAL_EXPONENT"), (0, u "I"), (4, u "(J)Lcom/example/curves_to_bounds/curvestobounds/curve/Rational;")] 38

def k4c0 : Code := { maxStack := 2, maxLocals := 3, code := prog_31_method_1_code, exceptionTable := #[], attributes := #[] }
def k4m0 : Method := { name := "<init>", desc := "(Ljava/math/BigInteger;Ljava/math/BigInteger;)V", sig := { parameters := [(.object "java/math/BigInteger"), (.object "java/math/BigInteger")], returnType := none }, accessFlags := 2, code := some k4c0 }
def k4c1 : Code := { maxStack := 4, maxLocals := 2, code := prog_31_method_2_code, exceptionTable := #[], attributes := #[] }
def k4m1 : Method := { name := "valueOf", desc := "(J)Lcom/example/curves_to_bounds/curvestobounds/curve/Rational;", sig := { parameters := [.long], returnType := some (.object "com/example/curves_to_bounds/curvestobounds/curve/Rational") }, accessFlags := 9, code := some k4c1 }
def k4c2 : Code := { maxStack := 4, maxLocals := 5, code := prog_31_method_4_code, exceptionTable := #[], attributes := #[] }
def k4m2 : Method := { name := "valueOf", desc := "(Ljava/math/BigInteger;Ljava/math/BigInteger;)Lcom/example/curves_to_bounds/curvestobounds/curve/Rational;", sig := { parameters := [(.object "java/math/BigInteger"), (.object "java/math/BigInteger")], returnType := some (.object "com/example/curves_to_bounds/curvestobounds/curve/Rational") }, accessFlags := 9, code := some k4c2 }
def k4c3 : Code := { maxStack := 3, maxLocals := 2, code := prog_31_method_13_code, exceptionTable := #[], attributes := #[] }
def k4m3 : Method := { name := "multiply", desc := "(Lcom/example/curves_to_bounds/curvestobounds/curve/Rational;)Lcom/example/curves_to_bounds/curvestobounds/curve/Rational;", sig := { parameters := [(.object "com/example/curves_to_bounds/curvestobounds/curve/Rational")], returnType := some (.object "com/example/curves_to_bounds/curvestobounds/curve/Rational") }, accessFlags := 1, code := some k4c3 }
def k4c4 : Code := { maxStack := 3, maxLocals := 2, code := prog_31_method_20_code, exceptionTable := #[], attributes := #[] }
def k4m4 : Method := { name := "compareTo", desc := "(Lcom/example/curves_to_bounds/curvestobounds/curve/Rational;)I", sig := { parameters := [(.object "com/example/curves_to_bounds/curvestobounds/curve/Rational")], returnType := some .int }, accessFlags := 1, code := some k4c4 }
/-- com/example/curves_to_bounds/curvestobounds/curve/Rational -/
def k4 : Class := { plain "com/example/curves_to_bounds/curvestobounds/curve/Rational" (some 0) with
  accessFlags := 49
  interfaces := #[3]
  cf := some (fileOf pool4 8 #[] #[{ accessFlags := 2, nameIndex := 5, descriptorIndex := 27, attributes := #[] }, { accessFlags := 9, nameIndex := 20, descriptorIndex := 151, attributes := #[] }, { accessFlags := 9, nameIndex := 20, descriptorIndex := 30, attributes := #[] }, { accessFlags := 1, nameIndex := 92, descriptorIndex := 102, attributes := #[] }, { accessFlags := 1, nameIndex := 105, descriptorIndex := 106, attributes := #[] }] 49 2 #[143] #[{ accessFlags := 25, nameIndex := 137, descriptorIndex := 140, attributes := #[] }, { accessFlags := 25, nameIndex := 24, descriptorIndex := 140, attributes := #[] }, { accessFlags := 25, nameIndex := 145, descriptorIndex := 146, attributes := #[] }, { accessFlags := 18, nameIndex := 11, descriptorIndex := 12, attributes := #[] }, { accessFlags := 18, nameIndex := 15, descriptorIndex := 12, attributes := #[] }])
  fields := #[{ name := "ZERO", type := (.object "com/example/curves_to_bounds/curvestobounds/curve/Rational"), accessFlags := 25, slot := 0, constantValue := 0 }, { name := "ONE", type := (.object "com/example/curves_to_bounds/curvestobounds/curve/Rational"), accessFlags := 25, slot := 1, constantValue := 0 }, { name := "MAX_DECIMAL_EXPONENT", type := .int, accessFlags := 25, slot := 2, constantValue := 0 }, { name := "numerator", type := (.object "java/math/BigInteger"), accessFlags := 18, slot := 0, constantValue := 0 }, { name := "denominator", type := (.object "java/math/BigInteger"), accessFlags := 18, slot := 1, constantValue := 0 }]
  methods := #[k4m0, k4m1, k4m2, k4m3, k4m4]
  instanceTypes := #[(.object "java/math/BigInteger"), (.object "java/math/BigInteger")]
  staticTypes := #[(.object "com/example/curves_to_bounds/curvestobounds/curve/Rational"), (.object "com/example/curves_to_bounds/curvestobounds/curve/Rational"), .int]
  resolved := Array.replicate 190 none
  statics := none }

def pool5 : Array CpInfo := pool [(1, .class_ 2), (0, u "java/io/Serializable"), (0, .class_ 4), (0, u "java/lang/Object")] 2

/-- java/io/Serializable -/
def k5 : Class := { plain "java/io/Serializable" (some 0) with
  accessFlags := 1537
  interfaces := #[]
  cf := some (fileOf pool5 1 #[] #[] 1537 3 #[] #[])
  fields := #[]
  methods := #[]
  instanceTypes := #[]
  staticTypes := #[]
  resolved := Array.replicate 7 none
  statics := none }

def pool6 : Array CpInfo := pool [(1, .methodref 2 3), (0, .class_ 4), (0, .nameAndType 5 6), (0, u "java/lang/Object"), (0, u "<init>"), (0, u "()V"), (1, .class_ 10), (1, u "java/lang/Number"), (2, .class_ 14), (0, u "java/io/Serializable"), (0, u "serialVersionUID"), (0, u "J")] 20

def k6c0 : Code := { maxStack := 1, maxLocals := 1, code := jdk_18_method_1_code, exceptionTable := #[], attributes := #[] }
def k6m0 : Method := { name := "<init>", desc := "()V", sig := { parameters := [], returnType := none }, accessFlags := 1, code := some k6c0 }
/-- java/lang/Number -/
def k6 : Class := { plain "java/lang/Number" (some 0) with
  accessFlags := 1057
  interfaces := #[5]
  cf := some (fileOf pool6 8 #[] #[{ accessFlags := 1, nameIndex := 5, descriptorIndex := 6, attributes := #[] }] 1057 2 #[13] #[{ accessFlags := 26, nameIndex := 15, descriptorIndex := 16, attributes := #[] }])
  fields := #[{ name := "serialVersionUID", type := .long, accessFlags := 26, slot := 0, constantValue := 0 }]
  methods := #[k6m0]
  instanceTypes := #[]
  staticTypes := #[.long]
  resolved := Array.replicate 37 none
  statics := none }

def pool7 : Array CpInfo := pool [(1, .class_ 2), (0, u "java/lang/Integer"), (0, .methodref 4 5), (0, .class_ 6), (0, .nameAndType 7 8), (0, u "java/lang/Number"), (0, u "<init>"), (0, u "()V"), (8, .class_ 19), (1, u "java/util/Objects"), (1, u "(III)I"), (0, .fieldref 23 24), (0, .class_ 25), (0, .nameAndType 26 27), (0, u "java/math/BigInteger"), (0, u "ZERO"), (0, u "Ljava/math/BigInteger;"), (0, .fieldref 23 29), (0, .nameAndType 30 31), (0, u "mag"), (0, u "[I"), (0, .fieldref 23 33), (0, .nameAndType 34 35), (0, u "signum"), (0, u "I"), (7, .integer 67108864), (30, u "()I"), (7, u "(I)I"), (12, u "bitsPerDigit"), (0, u "[J"), (9, u "digitsPerInt"), (12, u "intRadix"), (10, .long 4294967295), (9, .class_ 142), (1, u "java/util/Arrays"), (32, .methodref 23 176), (0, .nameAndType 7 177), (0, u "([II)V"), (2, u "SMALL_PRIME_PRODUCT"), (3, u "(Ljava/math/BigInteger;)Ljava/math/BigInteger;"), (34, u "(I)Ljava/math/BigInteger;"), (17, u "valueOf"), (0, u "(J)Ljava/math/BigInteger;"), (21, u "ONE"), (6, u "TWO"), (30, u "abs"), (12, u "$assertionsDisabled"), (0, u "Z"), (5, u "multiply"), (3, u "()Ljava/math/BigInteger;"), (14, u "compareTo"), (0, u "(Ljava/math/BigInteger;)I"), (6, .long 16), (1, .fieldref 23 348), (0, .nameAndType 349 350), (0, u "posConst"), (0, u "[Ljava/math/BigInteger;"), (0, .long 18446744073709551600), (1, .fieldref 23 354), (0, .nameAndType 355 350), (0, u "negConst"), (0, .methodref 23 357), (0, .nameAndType 7 358), (0, u "(J)V"), (1, .nameAndType 7 361), (0, u "([I)V"), (3, .methodref 23 366), (0, .nameAndType 367 338), (0, u "compareMagnitude"), (20, .methodref 389 390), (0, .class_ 391), (0, .nameAndType 392 393), (0, u "java/lang/System"), (0, u "arraycopy"), (0, u "(Ljava/lang/Object;ILjava/lang/Object;II)V"), (3, .methodref 23 398), (0, .nameAndType 318 399), (0, u "(Ljava/math/BigInteger;ZZI)Ljava/math/BigInteger;"), (3, .methodref 23 404), (0, .nameAndType 405 406), (0, u "multiplyByInt"), (0, u "([III)Ljava/math/BigInteger;"), (16, .methodref 1 424), (0, .nameAndType 425 82), (0, u "bitCount"), (0, .methodref 1 427), (0, .nameAndType 428 82), (0, u "numberOfTrailingZeros"), (0, .methodref 23 430), (0, .nameAndType 431 432), (0, u "shiftLeft"), (0, u "([II)[I"), (0, .methodref 140 434), (0, .nameAndType 435 436), (0, u "copyOfRange"), (0, u "([III)[I"), (35, .class_ 474), (1, u "java/math/BigInteger$RecursiveOp"), (10, .methodref 23 486), (0, .nameAndType 298 322), (48, .methodref 23 536), (0, .nameAndType 537 184), (0, u "divideKnuth"), (3, .class_ 542), (0, u "java/math/MutableBigInteger"), (0, .methodref 541 5), (0, .methodref 541 360), (0, .methodref 541 546), (0, .nameAndType 537 547), (0, u "(Ljava/math/MutableBigInteger;Ljava/math/MutableBigInteger;Z)Ljava/math/MutableBigInteger;"), (0, .methodref 541 549), (0, .nameAndType 550 219), (0, u "toBigInteger"), (16, .methodref 541 568), (0, .nameAndType 7 569), (0, u "(Ljava/math/BigInteger;)V"), (11, u "NEGATIVE_ONE"), (16, .methodref 541 599), (0, .nameAndType 600 601), (0, u "hybridGCD"), (0, u "(Ljava/math/MutableBigInteger;)Ljava/math/MutableBigInteger;"), (0, .methodref 1 603), (0, .nameAndType 604 82), (0, u "numberOfLeadingZeros"), (2, u "bitLengthForInt"), (3, .methodref 17 612), (0, .nameAndType 613 21), (0, u "checkFromToIndex"), (3, u "([I[IIII)V"), (0, .methodref 23 619), (0, .nameAndType 620 617), (0, u "shiftLeftImplWorker"), (21, u "divide"), (30, u "bnExpModThreshTable"), (72, u "lowestSetBitPlusTwo"), (2, u "bitLengthPlusOne"), (2, u "bitCountPlusOne"), (6, u "LOG_TWO"), (0, u "D"), (2, u "logCache"), (0, u "[D"), (13, u "NUM_ZEROS"), (2, u "ZEROS"), (0, u "Ljava/lang/String;"), (9, u "longRadix"), (5, u "digitsPerLong"), (22, u "powerCache"), (0, u "[[Ljava/math/BigInteger;"), (45, u "firstNonzeroIntNumPlusTwo"), (38, .class_ 909), (1, u "java/math/BigInteger$UnsafeHolder"), (141, u "TEN"), (106, u "serialPersistentFields"), (0, u "[Ljava/io/ObjectStreamField;"), (0, .class_ 1161), (0, u "java/lang/Comparable"), (0, u "LONG_MASK"), (0, u "J"), (1, u "MAX_MAG_LENGTH"), (0, u "PRIME_SEARCH_BIT_LENGTH_LIMIT"), (1, u "KARATSUBA_THRESHOLD"), (1, u "TOOM_COOK_THRESHOLD"), (1, u "KARATSUBA_SQUARE_THRESHOLD"), (1, u "TOOM_COOK_SQUARE_THRESHOLD"), (1, u "BURNIKEL_ZIEGLER_THRESHOLD"), (0, u "BURNIKEL_ZIEGLER_OFFSET"), (1, u "SCHOENHAGE_BASE_CONVERSION_THRESHOLD"), (1, u "MULTIPLY_SQUARE_THRESHOLD"), (0, u "MONTGOMERY_INTRINSIC_THRESHOLD"), (1, u "SMALL_PRIME_THRESHOLD"), (1, u "DEFAULT_PRIME_CERTAINTY"), (1, u "MAX_CONSTANT"), (3, u "serialVersionUID"), (186, u "gcd"), (151, .class_ 1532), (0, u "java/math/BigInteger$RecursiveOp$RecursiveSquare"), (0, .class_ 1534), (0, u "java/math/BigInteger$RecursiveOp$RecursiveMultiply")] 7

def k7c0 : Code := { maxStack := 2, maxLocals := 3, code := jdk_2097_method_25_code, exceptionTable := #[], attributes := #[] }
def k7m0 : Method := { name := "<init>", desc := "([II)V", sig := { parameters := [(.array .int), .int], returnType := none }, accessFlags := 0, code := some k7c0 }
def k7c1 : Code := { maxStack := 4, maxLocals := 2, code := jdk_2097_method_29_code, exceptionTable := #[], attributes := #[] }
def k7m1 : Method := { name := "valueOf", desc := "(J)Ljava/math/BigInteger;", sig := { parameters := [.long], returnType := some (.object "java/math/BigInteger") }, accessFlags := 9, code := some k7c1 }
def k7c2 : Code := { maxStack := 4, maxLocals := 4, code := jdk_2097_method_30_code, exceptionTable := #[], attributes := #[] }
def k7m2 : Method := { name := "<init>", desc := "(J)V", sig := { parameters := [.long], returnType := none }, accessFlags := 2, code := some k7c2 }
def k7c3 : Code := { maxStack := 5, maxLocals := 2, code := jdk_2097_method_40_code, exceptionTable := #[], attributes := #[] }
def k7m3 : Method := { name := "multiply", desc := "(Ljava/math/BigInteger;)Ljava/math/BigInteger;", sig := { parameters := [(.object "java/math/BigInteger")], returnType := some (.object "java/math/BigInteger") }, accessFlags := 1, code := some k7c3 }
def k7c4 : Code := { maxStack := 5, maxLocals := 9, code := jdk_2097_method_42_code, exceptionTable := #[], attributes := #[] }
def k7m4 : Method := { name := "multiply", desc := "(Ljava/math/BigInteger;ZZI)Ljava/math/BigInteger;", sig := { parameters := [(.object "java/math/BigInteger"), .boolean, .boolean, .int], returnType := some (.object "java/math/BigInteger") }, accessFlags := 2, code := some k7c4 }
def k7c5 : Code := { maxStack := 4, maxLocals := 13, code := jdk_2097_method_43_code, exceptionTable := #[], attributes := #[] }
def k7m5 : Method := { name := "multiplyByInt", desc := "([III)Ljava/math/BigInteger;", sig := { parameters := [(.array .int), .int, .int], returnType := some (.object "java/math/BigInteger") }, accessFlags := 10, code := some k7c5 }
def k7c6 : Code := { maxStack := 2, maxLocals := 2, code := jdk_2097_method_61_code, exceptionTable := #[], attributes := #[] }
def k7m6 : Method := { name := "divide", desc := "(Ljava/math/BigInteger;)Ljava/math/BigInteger;", sig := { parameters := [(.object "java/math/BigInteger")], returnType := some (.object "java/math/BigInteger") }, accessFlags := 1, code := some k7c6 }
def k7c7 : Code := { maxStack := 4, maxLocals := 5, code := jdk_2097_method_62_code, exceptionTable := #[], attributes := #[] }
def k7m7 : Method := { name := "divideKnuth", desc := "(Ljava/math/BigInteger;)Ljava/math/BigInteger;", sig := { parameters := [(.object "java/math/BigInteger")], returnType := some (.object "java/math/BigInteger") }, accessFlags := 2, code := some k7c7 }
def k7c8 : Code := { maxStack := 3, maxLocals := 5, code := jdk_2097_method_73_code, exceptionTable := #[], attributes := #[] }
def k7m8 : Method := { name := "gcd", desc := "(Ljava/math/BigInteger;)Ljava/math/BigInteger;", sig := { parameters := [(.object "java/math/BigInteger")], returnType := some (.object "java/math/BigInteger") }, accessFlags := 1, code := some k7c8 }
def k7c9 : Code := { maxStack := 2, maxLocals := 1, code := jdk_2097_method_74_code, exceptionTable := #[], attributes := #[] }
def k7m9 : Method := { name := "bitLengthForInt", desc := "(I)I", sig := { parameters := [.int], returnType := some .int }, accessFlags := 8, code := some k7c9 }
def k7c10 : Code := { maxStack := 1, maxLocals := 1, code := jdk_2097_method_79_code, exceptionTable := #[], attributes := #[] }
def k7m10 : Method := { name := "abs", desc := "()Ljava/math/BigInteger;", sig := { parameters := [], returnType := some (.object "java/math/BigInteger") }, accessFlags := 1, code := some k7c10 }
def k7c11 : Code := { maxStack := 1, maxLocals := 1, code := jdk_2097_method_81_code, exceptionTable := #[], attributes := #[] }
def k7m11 : Method := { name := "signum", desc := "()I", sig := { parameters := [], returnType := some .int }, accessFlags := 1, code := some k7c11 }
def k7c12 : Code := { maxStack := 5, maxLocals := 10, code := jdk_2097_method_102_code, exceptionTable := #[], attributes := #[] }
def k7m12 : Method := { name := "shiftLeft", desc := "([II)[I", sig := { parameters := [(.array .int), .int], returnType := some (.array .int) }, accessFlags := 10, code := some k7c12 }
def k7c13 : Code := { maxStack := 5, maxLocals := 7, code := jdk_2097_method_103_code, exceptionTable := #[], attributes := #[] }
def k7m13 : Method := { name := "shiftLeftImplWorker", desc := "([I[IIII)V", sig := { parameters := [(.array .int), (.array .int), .int, .int, .int], returnType := none }, accessFlags := 10, code := some k7c13 }
def k7c14 : Code := { maxStack := 2, maxLocals := 2, code := jdk_2097_method_121_code, exceptionTable := #[], attributes := #[] }
def k7m14 : Method := { name := "compareTo", desc := "(Ljava/math/BigInteger;)I", sig := { parameters := [(.object "java/math/BigInteger")], returnType := some .int }, accessFlags := 1, code := some k7c14 }
def k7c15 : Code := { maxStack := 6, maxLocals := 9, code := jdk_2097_method_122_code, exceptionTable := #[], attributes := #[] }
def k7m15 : Method := { name := "compareMagnitude", desc := "(Ljava/math/BigInteger;)I", sig := { parameters := [(.object "java/math/BigInteger")], returnType := some .int }, accessFlags := 16, code := some k7c15 }
/-- java/math/BigInteger -/
def k7 : Class := { plain "java/math/BigInteger" (some 6) with
  accessFlags := 33
  interfaces := #[3]
  cf := some (fileOf pool7 23 #[.nestMembers #[907, 472, 1531, 1533]] #[{ accessFlags := 0, nameIndex := 7, descriptorIndex := 177, attributes := #[] }, { accessFlags := 9, nameIndex := 237, descriptorIndex := 238, attributes := #[] }, { accessFlags := 2, nameIndex := 7, descriptorIndex := 358, attributes := #[] }, { accessFlags := 1, nameIndex := 318, descriptorIndex := 184, attributes := #[] }, { accessFlags := 2, nameIndex := 318, descriptorIndex := 399, attributes := #[] }, { accessFlags := 10, nameIndex := 405, descriptorIndex := 406, attributes := #[] }, { accessFlags := 1, nameIndex := 642, descriptorIndex := 184, attributes := #[] }, { accessFlags := 2, nameIndex := 537, descriptorIndex := 184, attributes := #[] }, { accessFlags := 1, nameIndex := 1379, descriptorIndex := 184, attributes := #[] }, { accessFlags := 8, nameIndex := 607, descriptorIndex := 82, attributes := #[] }, { accessFlags := 1, nameIndex := 298, descriptorIndex := 322, attributes := #[] }, { accessFlags := 1, nameIndex := 34, descriptorIndex := 74, attributes := #[] }, { accessFlags := 10, nameIndex := 431, descriptorIndex := 432, attributes := #[] }, { accessFlags := 10, nameIndex := 620, descriptorIndex := 617, attributes := #[] }, { accessFlags := 1, nameIndex := 337, descriptorIndex := 338, attributes := #[] }, { accessFlags := 16, nameIndex := 367, descriptorIndex := 338, attributes := #[] }] 33 4 #[1160] #[{ accessFlags := 16, nameIndex := 34, descriptorIndex := 35, attributes := #[] }, { accessFlags := 16, nameIndex := 30, descriptorIndex := 31, attributes := #[] }, { accessFlags := 2, nameIndex := 752, descriptorIndex := 35, attributes := #[] }, { accessFlags := 2, nameIndex := 749, descriptorIndex := 35, attributes := #[] }, { accessFlags := 2, nameIndex := 746, descriptorIndex := 35, attributes := #[] }, { accessFlags := 2, nameIndex := 868, descriptorIndex := 35, attributes := #[] }, { accessFlags := 24, nameIndex := 1162, descriptorIndex := 1163, attributes := #[] }, { accessFlags := 26, nameIndex := 1165, descriptorIndex := 35, attributes := #[] }, { accessFlags := 26, nameIndex := 1166, descriptorIndex := 35, attributes := #[] }, { accessFlags := 26, nameIndex := 1168, descriptorIndex := 35, attributes := #[] }, { accessFlags := 26, nameIndex := 1170, descriptorIndex := 35, attributes := #[] }, { accessFlags := 26, nameIndex := 1172, descriptorIndex := 35, attributes := #[] }, { accessFlags := 26, nameIndex := 1174, descriptorIndex := 35, attributes := #[] }, { accessFlags := 24, nameIndex := 1176, descriptorIndex := 35, attributes := #[] }, { accessFlags := 24, nameIndex := 1177, descriptorIndex := 35, attributes := #[] }, { accessFlags := 26, nameIndex := 1179, descriptorIndex := 35, attributes := #[] }, { accessFlags := 26, nameIndex := 1181, descriptorIndex := 35, attributes := #[] }, { accessFlags := 26, nameIndex := 1182, descriptorIndex := 35, attributes := #[] }, { accessFlags := 10, nameIndex := 95, descriptorIndex := 96, attributes := #[] }, { accessFlags := 26, nameIndex := 1184, descriptorIndex := 35, attributes := #[] }, { accessFlags := 26, nameIndex := 1186, descriptorIndex := 35, attributes := #[] }, { accessFlags := 26, nameIndex := 180, descriptorIndex := 27, attributes := #[] }, { accessFlags := 26, nameIndex := 1188, descriptorIndex := 35, attributes := #[] }, { accessFlags := 26, nameIndex := 349, descriptorIndex := 350, attributes := #[] }, { accessFlags := 26, nameIndex := 355, descriptorIndex := 350, attributes := #[] }, { accessFlags := 74, nameIndex := 821, descriptorIndex := 822, attributes := #[] }, { accessFlags := 26, nameIndex := 763, descriptorIndex := 764, attributes := #[] }, { accessFlags := 26, nameIndex := 759, descriptorIndex := 760, attributes := #[] }, { accessFlags := 25, nameIndex := 26, descriptorIndex := 27, attributes := #[] }, { accessFlags := 25, nameIndex := 260, descriptorIndex := 27, attributes := #[] }, { accessFlags := 25, nameIndex := 267, descriptorIndex := 27, attributes := #[] }, { accessFlags := 26, nameIndex := 581, descriptorIndex := 27, attributes := #[] }, { accessFlags := 25, nameIndex := 1051, descriptorIndex := 27, attributes := #[] }, { accessFlags := 8, nameIndex := 673, descriptorIndex := 31, attributes := #[] }, { accessFlags := 10, nameIndex := 778, descriptorIndex := 35, attributes := #[] }, { accessFlags := 26, nameIndex := 781, descriptorIndex := 782, attributes := #[] }, { accessFlags := 10, nameIndex := 798, descriptorIndex := 31, attributes := #[] }, { accessFlags := 10, nameIndex := 792, descriptorIndex := 350, attributes := #[] }, { accessFlags := 10, nameIndex := 106, descriptorIndex := 31, attributes := #[] }, { accessFlags := 10, nameIndex := 119, descriptorIndex := 31, attributes := #[] }, { accessFlags := 26, nameIndex := 1192, descriptorIndex := 1163, attributes := #[] }, { accessFlags := 26, nameIndex := 1158, descriptorIndex := 1159, attributes := #[] }, { accessFlags := 4120, nameIndex := 311, descriptorIndex := 312, attributes := #[] }])
  fields := #[{ name := "signum", type := .int, accessFlags := 16, slot := 0, constantValue := 0 }, { name := "mag", type := (.array .int), accessFlags := 16, slot := 1, constantValue := 0 }, { name := "bitCountPlusOne", type := .int, accessFlags := 2, slot := 2, constantValue := 0 }, { name := "bitLengthPlusOne", type := .int, accessFlags := 2, slot := 3, constantValue := 0 }, { name := "lowestSetBitPlusTwo", type := .int, accessFlags := 2, slot := 4, constantValue := 0 }, { name := "firstNonzeroIntNumPlusTwo", type := .int, accessFlags := 2, slot := 5, constantValue := 0 }, { name := "LONG_MASK", type := .long, accessFlags := 24, slot := 0, constantValue := 0 }, { name := "MAX_MAG_LENGTH", type := .int, accessFlags := 26, slot := 1, constantValue := 0 }, { name := "PRIME_SEARCH_BIT_LENGTH_LIMIT", type := .int, accessFlags := 26, slot := 2, constantValue := 0 }, { name := "KARATSUBA_THRESHOLD", type := .int, accessFlags := 26, slot := 3, constantValue := 0 }, { name := "TOOM_COOK_THRESHOLD", type := .int, accessFlags := 26, slot := 4, constantValue := 0 }, { name := "KARATSUBA_SQUARE_THRESHOLD", type := .int, accessFlags := 26, slot := 5, constantValue := 0 }, { name := "TOOM_COOK_SQUARE_THRESHOLD", type := .int, accessFlags := 26, slot := 6, constantValue := 0 }, { name := "BURNIKEL_ZIEGLER_THRESHOLD", type := .int, accessFlags := 24, slot := 7, constantValue := 0 }, { name := "BURNIKEL_ZIEGLER_OFFSET", type := .int, accessFlags := 24, slot := 8, constantValue := 0 }, { name := "SCHOENHAGE_BASE_CONVERSION_THRESHOLD", type := .int, accessFlags := 26, slot := 9, constantValue := 0 }, { name := "MULTIPLY_SQUARE_THRESHOLD", type := .int, accessFlags := 26, slot := 10, constantValue := 0 }, { name := "MONTGOMERY_INTRINSIC_THRESHOLD", type := .int, accessFlags := 26, slot := 11, constantValue := 0 }, { name := "bitsPerDigit", type := (.array .long), accessFlags := 10, slot := 12, constantValue := 0 }, { name := "SMALL_PRIME_THRESHOLD", type := .int, accessFlags := 26, slot := 13, constantValue := 0 }, { name := "DEFAULT_PRIME_CERTAINTY", type := .int, accessFlags := 26, slot := 14, constantValue := 0 }, { name := "SMALL_PRIME_PRODUCT", type := (.object "java/math/BigInteger"), accessFlags := 26, slot := 15, constantValue := 0 }, { name := "MAX_CONSTANT", type := .int, accessFlags := 26, slot := 16, constantValue := 0 }, { name := "posConst", type := (.array (.object "java/math/BigInteger")), accessFlags := 26, slot := 17, constantValue := 0 }, { name := "negConst", type := (.array (.object "java/math/BigInteger")), accessFlags := 26, slot := 18, constantValue := 0 }, { name := "powerCache", type := (.array (.array (.object "java/math/BigInteger"))), accessFlags := 74, slot := 19, constantValue := 0 }, { name := "logCache", type := (.array .double), accessFlags := 26, slot := 20, constantValue := 0 }, { name := "LOG_TWO", type := .double, accessFlags := 26, slot := 21, constantValue := 0 }, { name := "ZERO", type := (.object "java/math/BigInteger"), accessFlags := 25, slot := 22, constantValue := 0 }, { name := "ONE", type := (.object "java/math/BigInteger"), accessFlags := 25, slot := 23, constantValue := 0 }, { name := "TWO", type := (.object "java/math/BigInteger"), accessFlags := 25, slot := 24, constantValue := 0 }, { name := "NEGATIVE_ONE", type := (.object "java/math/BigInteger"), accessFlags := 26, slot := 25, constantValue := 0 }, { name := "TEN", type := (.object "java/math/BigInteger"), accessFlags := 25, slot := 26, constantValue := 0 }, { name := "bnExpModThreshTable", type := (.array .int), accessFlags := 8, slot := 27, constantValue := 0 }, { name := "NUM_ZEROS", type := .int, accessFlags := 10, slot := 28, constantValue := 0 }, { name := "ZEROS", type := (.object "java/lang/String"), accessFlags := 26, slot := 29, constantValue := 0 }, { name := "digitsPerLong", type := (.array .int), accessFlags := 10, slot := 30, constantValue := 0 }, { name := "longRadix", type := (.array (.object "java/math/BigInteger")), accessFlags := 10, slot := 31, constantValue := 0 }, { name := "digitsPerInt", type := (.array .int), accessFlags := 10, slot := 32, constantValue := 0 }, { name := "intRadix", type := (.array .int), accessFlags := 10, slot := 33, constantValue := 0 }, { name := "serialVersionUID", type := .long, accessFlags := 26, slot := 34, constantValue := 0 }, { name := "serialPersistentFields", type := (.array (.object "java/io/ObjectStreamField")), accessFlags := 26, slot := 35, constantValue := 0 }, { name := "$assertionsDisabled", type := .boolean, accessFlags := 4120, slot := 36, constantValue := 0 }]
  methods := #[k7m0, k7m1, k7m2, k7m3, k7m4, k7m5, k7m6, k7m7, k7m8, k7m9, k7m10, k7m11, k7m12, k7m13, k7m14, k7m15]
  instanceTypes := #[.int, (.array .int), .int, .int, .int, .int]
  staticTypes := #[.long, .int, .int, .int, .int, .int, .int, .int, .int, .int, .int, .int, (.array .long), .int, .int, (.object "java/math/BigInteger"), .int, (.array (.object "java/math/BigInteger")), (.array (.object "java/math/BigInteger")), (.array (.array (.object "java/math/BigInteger"))), (.array .double), .double, (.object "java/math/BigInteger"), (.object "java/math/BigInteger"), (.object "java/math/BigInteger"), (.object "java/math/BigInteger"), (.object "java/math/BigInteger"), (.array .int), .int, (.object "java/lang/String"), (.array .int), (.array (.object "java/math/BigInteger")), (.array .int), (.array .int), .long, (.array (.object "java/io/ObjectStreamField")), .boolean]
  resolved := Array.replicate 1542 none
  statics := some 0 }

def pool8 : Array CpInfo := pool [(1, .class_ 2), (0, u "java/lang/constant/Constable"), (0, .class_ 4), (0, u "java/lang/Object")] 6

/-- java/lang/constant/Constable -/
def k8 : Class := { plain "java/lang/constant/Constable" (some 0) with
  accessFlags := 1537
  interfaces := #[]
  cf := some (fileOf pool8 1 #[] #[] 1537 3 #[] #[])
  fields := #[]
  methods := #[]
  instanceTypes := #[]
  staticTypes := #[]
  resolved := Array.replicate 11 none
  statics := none }

def pool9 : Array CpInfo := pool [(1, .class_ 2), (0, u "java/lang/constant/ConstantDesc"), (0, .class_ 4), (0, u "java/lang/Object")] 32

/-- java/lang/constant/ConstantDesc -/
def k9 : Class := { plain "java/lang/constant/ConstantDesc" (some 0) with
  accessFlags := 1537
  interfaces := #[]
  cf := some (fileOf pool9 1 #[] #[] 1537 3 #[] #[])
  fields := #[]
  methods := #[]
  instanceTypes := #[]
  staticTypes := #[]
  resolved := Array.replicate 37 none
  statics := none }

def pool10 : Array CpInfo := pool [(1, .class_ 2), (0, u "java/lang/Integer"), (16, u "digits"), (0, u "[C"), (32, u "numberOfLeadingZeros"), (0, u "(I)I"), (30, u "DigitOnes"), (0, u "[B"), (2, u "DigitTens"), (99, .class_ 190), (0, u "java/lang/Integer$IntegerCache"), (3, u "I"), (8, .class_ 204), (0, u "java/lang/Number"), (2, u "value"), (56, .integer 65536), (0, .integer 1431655765), (0, .integer 858993459), (0, .integer 252645135), (34, u "TYPE"), (0, u "Ljava/lang/Class;"), (0, .class_ 305), (0, u "java/lang/Comparable"), (0, .class_ 307), (0, u "java/lang/constant/Constable"), (0, .class_ 309), (0, u "java/lang/constant/ConstantDesc"), (0, u "MIN_VALUE"), (1, u "MAX_VALUE"), (3, u "SIZE"), (1, u "BYTES"), (1, u "serialVersionUID"), (0, u "J"), (84, u "numberOfTrailingZeros"), (0, u "bitCount")] 45

def k10c0 : Code := { maxStack := 3, maxLocals := 2, code := jdk_33_method_47_code, exceptionTable := #[], attributes := #[] }
def k10m0 : Method := { name := "numberOfLeadingZeros", desc := "(I)I", sig := { parameters := [.int], returnType := some .int }, accessFlags := 9, code := some k10c0 }
def k10c1 : Code := { maxStack := 3, maxLocals := 2, code := jdk_33_method_48_code, exceptionTable := #[], attributes := #[] }
def k10m1 : Method := { name := "numberOfTrailingZeros", desc := "(I)I", sig := { parameters := [.int], returnType := some .int }, accessFlags := 9, code := some k10c1 }
def k10c2 : Code := { maxStack := 3, maxLocals := 1, code := jdk_33_method_49_code, exceptionTable := #[], attributes := #[] }
def k10m2 : Method := { name := "bitCount", desc := "(I)I", sig := { parameters := [.int], returnType := some .int }, accessFlags := 9, code := some k10c2 }
/-- java/lang/Integer -/
def k10 : Class := { plain "java/lang/Integer" (some 6) with
  accessFlags := 49
  interfaces := #[3, 8, 9]
  cf := some (fileOf pool10 1 #[.nestMembers #[189]] #[{ accessFlags := 9, nameIndex := 53, descriptorIndex := 54, attributes := #[] }, { accessFlags := 9, nameIndex := 406, descriptorIndex := 54, attributes := #[] }, { accessFlags := 9, nameIndex := 407, descriptorIndex := 54, attributes := #[] }] 49 203 #[304, 306, 308] #[{ accessFlags := 25, nameIndex := 310, descriptorIndex := 194, attributes := #[] }, { accessFlags := 25, nameIndex := 312, descriptorIndex := 194, attributes := #[] }, { accessFlags := 25, nameIndex := 302, descriptorIndex := 303, attributes := #[] }, { accessFlags := 24, nameIndex := 19, descriptorIndex := 20, attributes := #[] }, { accessFlags := 24, nameIndex := 89, descriptorIndex := 86, attributes := #[] }, { accessFlags := 24, nameIndex := 85, descriptorIndex := 86, attributes := #[] }, { accessFlags := 18, nameIndex := 207, descriptorIndex := 194, attributes := #[] }, { accessFlags := 25, nameIndex := 316, descriptorIndex := 194, attributes := #[] }, { accessFlags := 25, nameIndex := 318, descriptorIndex := 194, attributes := #[] }, { accessFlags := 26, nameIndex := 320, descriptorIndex := 321, attributes := #[] }])
  fields := #[{ name := "MIN_VALUE", type := .int, accessFlags := 25, slot := 0, constantValue := 0 }, { name := "MAX_VALUE", type := .int, accessFlags := 25, slot := 1, constantValue := 0 }, { name := "TYPE", type := (.object "java/lang/Class"), accessFlags := 25, slot := 2, constantValue := 0 }, { name := "digits", type := (.array .char), accessFlags := 24, slot := 3, constantValue := 0 }, { name := "DigitTens", type := (.array .byte), accessFlags := 24, slot := 4, constantValue := 0 }, { name := "DigitOnes", type := (.array .byte), accessFlags := 24, slot := 5, constantValue := 0 }, { name := "value", type := .int, accessFlags := 18, slot := 0, constantValue := 0 }, { name := "SIZE", type := .int, accessFlags := 25, slot := 6, constantValue := 0 }, { name := "BYTES", type := .int, accessFlags := 25, slot := 7, constantValue := 0 }, { name := "serialVersionUID", type := .long, accessFlags := 26, slot := 8, constantValue := 0 }]
  methods := #[k10m0, k10m1, k10m2]
  instanceTypes := #[.int]
  staticTypes := #[.int, .int, (.object "java/lang/Class"), (.array .char), (.array .byte), (.array .byte), .int, .int, .long]
  resolved := Array.replicate 453 none
  statics := none }

def pool11 : Array CpInfo := pool [(2, .class_ 4), (1, u "java/lang/Object"), (0, u "<init>"), (0, u "()V"), (1, .class_ 10), (1, u "java/lang/System"), (0, u "allowSecurityManager"), (0, u "I"), (16, u "cons"), (0, u "Ljava/io/Console;"), (77, .class_ 110), (1, u "java/lang/System$CallersHolder"), (43, u "initialErrStream"), (0, u "Ljava/io/PrintStream;"), (19, u "security"), (0, u "Ljava/lang/SecurityManager;"), (31, .class_ 209), (0, u "java/lang/System$1"), (7, u "props"), (0, u "Ljava/util/Properties;"), (2, u "lineSeparator"), (0, u "Ljava/lang/String;"), (96, .class_ 321), (1, u "java/lang/System$LoggerFinder"), (5, .class_ 328), (0, u "java/lang/System$Logger"), (67, u "err"), (2, u "out"), (91, u "notSupportedJnuEncoding"), (15, u "in"), (17, u "initialIn"), (0, u "Ljava/io/InputStream;"), (35, u "bootLayer"), (0, u "Ljava/lang/ModuleLayer;"), (99, .class_ 664), (0, u "java/lang/System$2"), (9, u "NEVER"), (2, u "MAYBE"), (49, u "arraycopy"), (0, u "(Ljava/lang/Object;ILjava/lang/Object;II)V"), (72, .class_ 802), (0, u "java/lang/System$Logger$Level")] 31

def k11m0 : Method := { name := "<init>", desc := "()V", sig := { parameters := [], returnType := none }, accessFlags := 2, code := none }
def k11m1 : Method := { name := "arraycopy", desc := "(Ljava/lang/Object;ILjava/lang/Object;II)V", sig := { parameters := [(.object "java/lang/Object"), .int, (.object "java/lang/Object"), .int, .int], returnType := none }, accessFlags := 265, code := none }
/-- java/lang/System -/
def k11 : Class := { plain "java/lang/System" (some 0) with
  accessFlags := 49
  interfaces := #[]
  cf := some (fileOf pool11 8 #[.nestMembers #[319, 327, 801, 108, 663, 208]] #[{ accessFlags := 2, nameIndex := 5, descriptorIndex := 6, attributes := #[] }, { accessFlags := 265, nameIndex := 727, descriptorIndex := 728, attributes := #[] }] 49 2 #[] #[{ accessFlags := 25, nameIndex := 507, descriptorIndex := 526, attributes := #[] }, { accessFlags := 25, nameIndex := 399, descriptorIndex := 155, attributes := #[] }, { accessFlags := 25, nameIndex := 396, descriptorIndex := 155, attributes := #[] }, { accessFlags := 10, nameIndex := 525, descriptorIndex := 526, attributes := #[] }, { accessFlags := 26, nameIndex := 674, descriptorIndex := 12, attributes := #[] }, { accessFlags := 26, nameIndex := 677, descriptorIndex := 12, attributes := #[] }, { accessFlags := 10, nameIndex := 11, descriptorIndex := 12, attributes := #[] }, { accessFlags := 74, nameIndex := 175, descriptorIndex := 176, attributes := #[] }, { accessFlags := 10, nameIndex := 491, descriptorIndex := 222, attributes := #[] }, { accessFlags := 74, nameIndex := 29, descriptorIndex := 30, attributes := #[] }, { accessFlags := 74, nameIndex := 154, descriptorIndex := 155, attributes := #[] }, { accessFlags := 10, nameIndex := 217, descriptorIndex := 218, attributes := #[] }, { accessFlags := 10, nameIndex := 221, descriptorIndex := 222, attributes := #[] }, { accessFlags := 8, nameIndex := 562, descriptorIndex := 563, attributes := #[] }])
  fields := #[{ name := "in", type := (.object "java/io/InputStream"), accessFlags := 25, slot := 0, constantValue := 0 }, { name := "out", type := (.object "java/io/PrintStream"), accessFlags := 25, slot := 1, constantValue := 0 }, { name := "err", type := (.object "java/io/PrintStream"), accessFlags := 25, slot := 2, constantValue := 0 }, { name := "initialIn", type := (.object "java/io/InputStream"), accessFlags := 10, slot := 3, constantValue := 0 }, { name := "NEVER", type := .int, accessFlags := 26, slot := 4, constantValue := 0 }, { name := "MAYBE", type := .int, accessFlags := 26, slot := 5, constantValue := 0 }, { name := "allowSecurityManager", type := .int, accessFlags := 10, slot := 6, constantValue := 0 }, { name := "security", type := (.object "java/lang/SecurityManager"), accessFlags := 74, slot := 7, constantValue := 0 }, { name := "notSupportedJnuEncoding", type := (.object "java/lang/String"), accessFlags := 10, slot := 8, constantValue := 0 }, { name := "cons", type := (.object "java/io/Console"), accessFlags := 74, slot := 9, constantValue := 0 }, { name := "initialErrStream", type := (.object "java/io/PrintStream"), accessFlags := 74, slot := 10, constantValue := 0 }, { name := "props", type := (.object "java/util/Properties"), accessFlags := 10, slot := 11, constantValue := 0 }, { name := "lineSeparator", type := (.object "java/lang/String"), accessFlags := 10, slot := 12, constantValue := 0 }, { name := "bootLayer", type := (.object "java/lang/ModuleLayer"), accessFlags := 8, slot := 13, constantValue := 0 }]
  methods := #[k11m0, k11m1]
  instanceTypes := #[]
  staticTypes := #[(.object "java/io/InputStream"), (.object "java/io/PrintStream"), (.object "java/io/PrintStream"), (.object "java/io/InputStream"), .int, .int, .int, (.object "java/lang/SecurityManager"), (.object "java/lang/String"), (.object "java/io/Console"), (.object "java/io/PrintStream"), (.object "java/util/Properties"), (.object "java/lang/String"), (.object "java/lang/ModuleLayer")]
  resolved := Array.replicate 834 none
  statics := none }

def pool12 : Array CpInfo := pool [(2, .class_ 4), (1, u "java/lang/CharSequence"), (42, .class_ 48), (0, u "java/lang/CharSequence$1CodePointIterator"), (10, .class_ 60), (0, u "java/lang/CharSequence$1CharIterator"), (5, .class_ 67), (0, u "java/lang/Object")] 63

/-- java/lang/CharSequence -/
def k12 : Class := { plain "java/lang/CharSequence" (some 0) with
  accessFlags := 1537
  interfaces := #[]
  cf := some (fileOf pool12 2 #[.nestMembers #[47, 59]] #[] 1537 66 #[] #[])
  fields := #[]
  methods := #[]
  instanceTypes := #[]
  staticTypes := #[]
  resolved := Array.replicate 131 none
  statics := none }

def pool13 : Array CpInfo := pool [(2, .class_ 4), (1, u "java/lang/Object"), (0, u "<init>"), (0, u "()V"), (3, .class_ 12), (1, u "java/lang/String"), (0, u "value"), (0, u "[B"), (2, u "coder"), (0, u "B"), (2, u "hash"), (0, u "I"), (2, u "hashIsZero"), (0, u "Z"), (13, u "COMPACT_STRINGS"), (534, .class_ 576), (0, u "java/lang/CharSequence"), (22, u "CASE_INSENSITIVE_ORDER"), (0, u "Ljava/util/Comparator;"), (500, u "serialPersistentFields"), (0, u "[Ljava/io/ObjectStreamField;"), (0, .class_ 1104), (0, u "java/lang/String$CaseInsensitiveComparator"), (1, .class_ 1107), (0, u "java/io/Serializable"), (0, .class_ 1109), (0, u "java/lang/Comparable"), (0, .class_ 1111), (0, u "java/lang/constant/Constable"), (0, .class_ 1113), (0, u "java/lang/constant/ConstantDesc"), (2, u "serialVersionUID"), (0, u "J"), (3, u "REPL"), (0, u "C"), (2, u "LATIN1"), (1, u "UTF16")] 323

def k13m0 : Method := { name := "<init>", desc := "()V", sig := { parameters := [], returnType := none }, accessFlags := 1, code := none }
/-- java/lang/String -/
def k13 : Class := { plain "java/lang/String" (some 0) with
  accessFlags := 49
  interfaces := #[5, 3, 12, 8, 9]
  cf := some (fileOf pool13 10 #[.nestMembers #[1103]] #[{ accessFlags := 1, nameIndex := 5, descriptorIndex := 6, attributes := #[] }] 49 2 #[1106, 1108, 575, 1110, 1112] #[{ accessFlags := 18, nameIndex := 13, descriptorIndex := 14, attributes := #[] }, { accessFlags := 18, nameIndex := 17, descriptorIndex := 18, attributes := #[] }, { accessFlags := 2, nameIndex := 21, descriptorIndex := 22, attributes := #[] }, { accessFlags := 2, nameIndex := 25, descriptorIndex := 26, attributes := #[] }, { accessFlags := 26, nameIndex := 1116, descriptorIndex := 1117, attributes := #[] }, { accessFlags := 24, nameIndex := 40, descriptorIndex := 26, attributes := #[] }, { accessFlags := 26, nameIndex := 1101, descriptorIndex := 1102, attributes := #[] }, { accessFlags := 26, nameIndex := 1121, descriptorIndex := 1122, attributes := #[] }, { accessFlags := 25, nameIndex := 599, descriptorIndex := 600, attributes := #[] }, { accessFlags := 24, nameIndex := 1125, descriptorIndex := 18, attributes := #[] }, { accessFlags := 24, nameIndex := 1127, descriptorIndex := 18, attributes := #[] }])
  fields := #[{ name := "value", type := (.array .byte), accessFlags := 18, slot := 0, constantValue := 0 }, { name := "coder", type := .byte, accessFlags := 18, slot := 1, constantValue := 0 }, { name := "hash", type := .int, accessFlags := 2, slot := 2, constantValue := 0 }, { name := "hashIsZero", type := .boolean, accessFlags := 2, slot := 3, constantValue := 0 }, { name := "serialVersionUID", type := .long, accessFlags := 26, slot := 0, constantValue := 0 }, { name := "COMPACT_STRINGS", type := .boolean, accessFlags := 24, slot := 1, constantValue := 0 }, { name := "serialPersistentFields", type := (.array (.object "java/io/ObjectStreamField")), accessFlags := 26, slot := 2, constantValue := 0 }, { name := "REPL", type := .char, accessFlags := 26, slot := 3, constantValue := 0 }, { name := "CASE_INSENSITIVE_ORDER", type := (.object "java/util/Comparator"), accessFlags := 25, slot := 4, constantValue := 0 }, { name := "LATIN1", type := .byte, accessFlags := 24, slot := 5, constantValue := 0 }, { name := "UTF16", type := .byte, accessFlags := 24, slot := 6, constantValue := 0 }]
  methods := #[k13m0]
  instanceTypes := #[(.array .byte), .byte, .int, .boolean]
  staticTypes := #[.long, .boolean, (.array (.object "java/io/ObjectStreamField")), .char, (.object "java/util/Comparator"), .byte, .byte]
  resolved := Array.replicate 1451 none
  statics := none }

def pool14 : Array CpInfo := pool [(2, .class_ 4), (1, u "java/lang/Object"), (0, u "<init>"), (0, u "()V"), (35, .class_ 44), (1, u "java/util/Objects"), (0, u "requireNonNull"), (48, u "(Ljava/lang/Object;Ljava/lang/String;)Ljava/lang/Object;"), (11, .class_ 108), (1, u "jdk/internal/util/Preconditions"), (2, .methodref 106 112), (0, .nameAndType 113 114), (0, u "checkFromToIndex"), (0, u "(IIILjava/util/function/BiFunction;)I"), (60, u "(III)I")] 8

def k14m0 : Method := { name := "<init>", desc := "()V", sig := { parameters := [], returnType := none }, accessFlags := 2, code := none }
def k14c1 : Code := { maxStack := 3, maxLocals := 2, code := jdk_31_method_11_code, exceptionTable := #[], attributes := #[] }
def k14m1 : Method := { name := "requireNonNull", desc := "(Ljava/lang/Object;Ljava/lang/String;)Ljava/lang/Object;", sig := { parameters := [(.object "java/lang/Object"), (.object "java/lang/String")], returnType := some (.object "java/lang/Object") }, accessFlags := 9, code := some k14c1 }
def k14c2 : Code := { maxStack := 4, maxLocals := 3, code := jdk_31_method_18_code, exceptionTable := #[], attributes := #[] }
def k14m2 : Method := { name := "checkFromToIndex", desc := "(III)I", sig := { parameters := [.int, .int, .int], returnType := some .int }, accessFlags := 9, code := some k14c2 }
/-- java/util/Objects -/
def k14 : Class := { plain "java/util/Objects" (some 0) with
  accessFlags := 49
  interfaces := #[]
  cf := some (fileOf pool14 42 #[] #[{ accessFlags := 2, nameIndex := 5, descriptorIndex := 6, attributes := #[] }, { accessFlags := 9, nameIndex := 45, descriptorIndex := 94, attributes := #[] }, { accessFlags := 9, nameIndex := 113, descriptorIndex := 175, attributes := #[] }] 49 2 #[] #[])
  fields := #[]
  methods := #[k14m0, k14m1, k14m2]
  instanceTypes := #[]
  staticTypes := #[]
  resolved := Array.replicate 184 none
  statics := none }

def pool15 : Array CpInfo := pool [(1, .class_ 2), (0, u "java/math/BigInteger"), (2, .methodref 6 7), (0, .class_ 8), (0, .nameAndType 9 10), (0, u "java/lang/Object"), (0, u "<init>"), (0, u "()V"), (0, .fieldref 12 13), (0, .class_ 14), (0, .nameAndType 15 16), (0, u "java/math/MutableBigInteger"), (0, u "offset"), (0, u "I"), (0, .fieldref 12 18), (0, .nameAndType 19 20), (0, u "value"), (0, u "[I"), (0, .fieldref 12 22), (0, .nameAndType 23 16), (0, u "intLen"), (0, .fieldref 1 25), (0, .nameAndType 26 20), (0, u "mag"), (0, .methodref 28 29), (0, .class_ 30), (0, .nameAndType 31 32), (0, u "java/util/Arrays"), (0, u "copyOf"), (0, u "([II)[I"), (7, u "([II)V"), (2, u "$assertionsDisabled"), (0, u "Z"), (7, .long 4294967295), (1, .fieldref 1 55), (0, .nameAndType 56 57), (0, u "ZERO"), (0, u "Ljava/math/BigInteger;"), (0, .methodref 12 59), (0, .nameAndType 60 61), (0, u "getMagnitudeArray"), (0, u "()[I"), (0, .methodref 1 63), (0, .nameAndType 9 40), (0, .methodref 12 65), (0, .nameAndType 66 10), (0, u "normalize"), (6, u "toBigInteger"), (0, u "(I)Ljava/math/BigInteger;"), (13, .integer 2147483648), (0, .methodref 90 91), (0, .class_ 92), (0, .nameAndType 93 94), (0, u "java/lang/Integer"), (0, u "numberOfTrailingZeros"), (0, u "(I)I"), (13, .methodref 12 109), (0, .nameAndType 110 111), (0, u "rightShift"), (0, u "(I)V"), (0, .methodref 1 113), (0, .nameAndType 114 94), (0, u "bitLengthForInt"), (0, .methodref 12 116), (0, .nameAndType 117 111), (0, u "primitiveLeftShift"), (0, .methodref 12 119), (0, .nameAndType 120 111), (0, u "primitiveRightShift"), (10, .class_ 133), (1, u "java/lang/Math"), (1, u "(II)I"), (6, .methodref 12 143), (0, .nameAndType 144 145), (0, u "compare"), (0, u "(Ljava/math/MutableBigInteger;)I"), (3, .methodref 12 150), (0, .nameAndType 151 10), (0, u "clear"), (0, .methodref 90 153), (0, .nameAndType 154 94), (0, u "numberOfLeadingZeros"), (7, u "(Ljava/math/MutableBigInteger;Ljava/math/MutableBigInteger;Z)Ljava/math/MutableBigInteger;"), (2, u "divideKnuth"), (11, .methodref 12 7), (0, .methodref 12 179), (0, .nameAndType 180 181), (0, u "divideOneWord"), (0, u "(ILjava/math/MutableBigInteger;)I"), (2, .methodref 12 185), (0, .nameAndType 186 187), (0, u "getLowestSetBit"), (0, u "()I"), (57, u "(Ljava/math/BigInteger;)V"), (11, u "ONE"), (0, u "Ljava/math/MutableBigInteger;"), (2, u "([I)V"), (67, .methodref 131 330), (0, .nameAndType 331 94), (0, u "abs"), (0, .methodref 12 333), (0, .nameAndType 334 335), (0, u "binaryGCD"), (0, u "(Ljava/math/MutableBigInteger;)Ljava/math/MutableBigInteger;"), (2, .methodref 12 339), (0, .nameAndType 340 135), (0, u "binaryGcd"), (0, .methodref 12 342), (0, .nameAndType 343 145), (0, u "difference"), (67, u "KNUTH_POW2_THRESH_LEN"), (2, u "KNUTH_POW2_THRESH_ZEROS"), (137, u "hybridGCD")] 37

def k15c0 : Code := { maxStack := 2, maxLocals := 1, code := jdk_2101_method_1_code, exceptionTable := #[], attributes := #[] }
def k15m0 : Method := { name := "<init>", desc := "()V", sig := { parameters := [], returnType := none }, accessFlags := 0, code := some k15c0 }
def k15c1 : Code := { maxStack := 2, maxLocals := 2, code := jdk_2101_method_3_code, exceptionTable := #[], attributes := #[] }
def k15m1 : Method := { name := "<init>", desc := "([I)V", sig := { parameters := [(.array .int)], returnType := none }, accessFlags := 0, code := some k15c1 }
def k15c2 : Code := { maxStack := 3, maxLocals := 2, code := jdk_2101_method_4_code, exceptionTable := #[], attributes := #[] }
def k15m2 : Method := { name := "<init>", desc := "(Ljava/math/BigInteger;)V", sig := { parameters := [(.object "java/math/BigInteger")], returnType := none }, accessFlags := 0, code := some k15c2 }
def k15c3 : Code := { maxStack := 4, maxLocals := 2, code := jdk_2101_method_7_code, exceptionTable := #[], attributes := #[] }
def k15m3 : Method := { name := "getMagnitudeArray", desc := "()[I", sig := { parameters := [], returnType := some (.array .int) }, accessFlags := 2, code := some k15c3 }
def k15c4 : Code := { maxStack := 4, maxLocals := 2, code := jdk_2101_method_9_code, exceptionTable := #[], attributes := #[] }
def k15m4 : Method := { name := "toBigInteger", desc := "(I)Ljava/math/BigInteger;", sig := { parameters := [.int], returnType := some (.object "java/math/BigInteger") }, accessFlags := 0, code := some k15c4 }
def k15c5 : Code := { maxStack := 4, maxLocals := 3, code := jdk_2101_method_13_code, exceptionTable := #[], attributes := #[] }
def k15m5 : Method := { name := "clear", desc := "()V", sig := { parameters := [], returnType := none }, accessFlags := 0, code := some k15c5 }
def k15c6 : Code := { maxStack := 3, maxLocals := 8, code := jdk_2101_method_15_code, exceptionTable := #[], attributes := #[] }
def k15m6 : Method := { name := "compare", desc := "(Ljava/math/MutableBigInteger;)I", sig := { parameters := [(.object "java/math/MutableBigInteger")], returnType := some .int }, accessFlags := 16, code := some k15c6 }
def k15c7 : Code := { maxStack := 3, maxLocals := 3, code := jdk_2101_method_18_code, exceptionTable := #[], attributes := #[] }
def k15m7 : Method := { name := "getLowestSetBit", desc := "()I", sig := { parameters := [], returnType := some .int }, accessFlags := 18, code := some k15c7 }
def k15c8 : Code := { maxStack := 3, maxLocals := 4, code := jdk_2101_method_21_code, exceptionTable := #[], attributes := #[] }
def k15m8 : Method := { name := "normalize", desc := "()V", sig := { parameters := [], returnType := none }, accessFlags := 16, code := some k15c8 }
def k15c9 : Code := { maxStack := 3, maxLocals := 5, code := jdk_2101_method_35_code, exceptionTable := #[], attributes := #[] }
def k15m9 : Method := { name := "rightShift", desc := "(I)V", sig := { parameters := [.int], returnType := none }, accessFlags := 0, code := some k15c9 }
def k15c10 : Code := { maxStack := 5, maxLocals := 7, code := jdk_2101_method_41_code, exceptionTable := #[], attributes := #[] }
def k15m10 : Method := { name := "primitiveRightShift", desc := "(I)V", sig := { parameters := [.int], returnType := none }, accessFlags := 18, code := some k15c10 }
def k15c11 : Code := { maxStack := 5, maxLocals := 8, code := jdk_2101_method_42_code, exceptionTable := #[], attributes := #[] }
def k15m11 : Method := { name := "primitiveLeftShift", desc := "(I)V", sig := { parameters := [.int], returnType := none }, accessFlags := 18, code := some k15c11 }
def k15c12 : Code := { maxStack := 6, maxLocals := 8, code := jdk_2101_method_50_code, exceptionTable := #[], attributes := #[] }
def k15m12 : Method := { name := "difference", desc := "(Ljava/math/MutableBigInteger;)I", sig := { parameters := [(.object "java/math/MutableBigInteger")], returnType := some .int }, accessFlags := 2, code := some k15c12 }
def k15c13 : Code := { maxStack := 6, maxLocals := 15, code := jdk_2101_method_53_code, exceptionTable := #[], attributes := #[] }
def k15m13 : Method := { name := "divideOneWord", desc := "(ILjava/math/MutableBigInteger;)I", sig := { parameters := [.int, (.object "java/math/MutableBigInteger")], returnType := some .int }, accessFlags := 0, code := some k15c13 }
def k15c14 : Code := { maxStack := 5, maxLocals := 8, code := jdk_2101_method_57_code, exceptionTable := #[], attributes := #[] }
def k15m14 : Method := { name := "divideKnuth", desc := "(Ljava/math/MutableBigInteger;Ljava/math/MutableBigInteger;Z)Ljava/math/MutableBigInteger;", sig := { parameters := [(.object "java/math/MutableBigInteger"), (.object "java/math/MutableBigInteger"), .boolean], returnType := some (.object "java/math/MutableBigInteger") }, accessFlags := 0, code := some k15c14 }
def k15c15 : Code := { maxStack := 3, maxLocals := 5, code := jdk_2101_method_72_code, exceptionTable := #[], attributes := #[] }
def k15m15 : Method := { name := "hybridGCD", desc := "(Ljava/math/MutableBigInteger;)Ljava/math/MutableBigInteger;", sig := { parameters := [(.object "java/math/MutableBigInteger")], returnType := some (.object "java/math/MutableBigInteger") }, accessFlags := 0, code := some k15c15 }
def k15c16 : Code := { maxStack := 3, maxLocals := 13, code := jdk_2101_method_73_code, exceptionTable := #[], attributes := #[] }
def k15m16 : Method := { name := "binaryGCD", desc := "(Ljava/math/MutableBigInteger;)Ljava/math/MutableBigInteger;", sig := { parameters := [(.object "java/math/MutableBigInteger")], returnType := some (.object "java/math/MutableBigInteger") }, accessFlags := 2, code := some k15c16 }
def k15c17 : Code := { maxStack := 3, maxLocals := 5, code := jdk_2101_method_74_code, exceptionTable := #[], attributes := #[] }
def k15m17 : Method := { name := "binaryGcd", desc := "(II)I", sig := { parameters := [.int, .int], returnType := some .int }, accessFlags := 8, code := some k15c17 }
/-- java/math/MutableBigInteger -/
def k15 : Class := { plain "java/math/MutableBigInteger" (some 0) with
  accessFlags := 32
  interfaces := #[]
  cf := some (fileOf pool15 12 #[] #[{ accessFlags := 0, nameIndex := 9, descriptorIndex := 10, attributes := #[] }, { accessFlags := 0, nameIndex := 9, descriptorIndex := 261, attributes := #[] }, { accessFlags := 0, nameIndex := 9, descriptorIndex := 245, attributes := #[] }, { accessFlags := 2, nameIndex := 60, descriptorIndex := 61, attributes := #[] }, { accessFlags := 0, nameIndex := 73, descriptorIndex := 74, attributes := #[] }, { accessFlags := 0, nameIndex := 151, descriptorIndex := 10, attributes := #[] }, { accessFlags := 16, nameIndex := 144, descriptorIndex := 145, attributes := #[] }, { accessFlags := 18, nameIndex := 186, descriptorIndex := 187, attributes := #[] }, { accessFlags := 16, nameIndex := 66, descriptorIndex := 10, attributes := #[] }, { accessFlags := 0, nameIndex := 110, descriptorIndex := 111, attributes := #[] }, { accessFlags := 18, nameIndex := 120, descriptorIndex := 111, attributes := #[] }, { accessFlags := 18, nameIndex := 117, descriptorIndex := 111, attributes := #[] }, { accessFlags := 2, nameIndex := 343, descriptorIndex := 145, attributes := #[] }, { accessFlags := 0, nameIndex := 180, descriptorIndex := 181, attributes := #[] }, { accessFlags := 0, nameIndex := 165, descriptorIndex := 162, attributes := #[] }, { accessFlags := 0, nameIndex := 552, descriptorIndex := 335, attributes := #[] }, { accessFlags := 2, nameIndex := 334, descriptorIndex := 335, attributes := #[] }, { accessFlags := 8, nameIndex := 340, descriptorIndex := 135, attributes := #[] }] 32 6 #[] #[{ accessFlags := 0, nameIndex := 19, descriptorIndex := 20, attributes := #[] }, { accessFlags := 0, nameIndex := 23, descriptorIndex := 16, attributes := #[] }, { accessFlags := 0, nameIndex := 15, descriptorIndex := 16, attributes := #[] }, { accessFlags := 24, nameIndex := 257, descriptorIndex := 258, attributes := #[] }, { accessFlags := 24, nameIndex := 411, descriptorIndex := 16, attributes := #[] }, { accessFlags := 24, nameIndex := 414, descriptorIndex := 16, attributes := #[] }, { accessFlags := 4120, nameIndex := 43, descriptorIndex := 44, attributes := #[] }])
  fields := #[{ name := "value", type := (.array .int), accessFlags := 0, slot := 0, constantValue := 0 }, { name := "intLen", type := .int, accessFlags := 0, slot := 1, constantValue := 0 }, { name := "offset", type := .int, accessFlags := 0, slot := 2, constantValue := 0 }, { name := "ONE", type := (.object "java/math/MutableBigInteger"), accessFlags := 24, slot := 0, constantValue := 0 }, { name := "KNUTH_POW2_THRESH_LEN", type := .int, accessFlags := 24, slot := 1, constantValue := 0 }, { name := "KNUTH_POW2_THRESH_ZEROS", type := .int, accessFlags := 24, slot := 2, constantValue := 0 }, { name := "$assertionsDisabled", type := .boolean, accessFlags := 4120, slot := 3, constantValue := 0 }]
  methods := #[k15m0, k15m1, k15m2, k15m3, k15m4, k15m5, k15m6, k15m7, k15m8, k15m9, k15m10, k15m11, k15m12, k15m13, k15m14, k15m15, k15m16, k15m17]
  instanceTypes := #[(.array .int), .int, .int]
  staticTypes := #[(.object "java/math/MutableBigInteger"), .int, .int, .boolean]
  resolved := Array.replicate 590 none
  statics := none }

def pool16 : Array CpInfo := pool [(2, .class_ 4), (1, u "java/lang/Object"), (0, u "<init>"), (0, u "()V"), (7, .class_ 16), (1, u "java/util/Arrays"), (57, .class_ 76), (1, u "java/util/Arrays$NaturalOrder"), (32, u "()Ljava/lang/Object;"), (3, .class_ 115), (1, u "java/util/Arrays$LegacyMergeSort"), (1, u "Z"), (10, .nameAndType 129 109), (0, u "clone"), (9, u "copyOfRange"), (10, .methodref 151 152), (0, .class_ 153), (0, .nameAndType 154 155), (0, u "java/lang/System"), (0, u "arraycopy"), (0, u "(Ljava/lang/Object;ILjava/lang/Object;II)V"), (146, u "copyOf"), (1, .methodref 305 306), (0, .class_ 307), (0, .nameAndType 308 309), (0, u "java/lang/Math"), (0, u "min"), (0, u "(II)I"), (6, .methodref 317 128), (0, .class_ 318), (0, u "[I"), (24, .methodref 14 344), (0, .nameAndType 345 346), (0, u "checkLength"), (0, u "(II)V"), (4, .methodref 14 352), (0, .nameAndType 353 354), (0, u "copyOfRangeInt"), (0, u "([III)[I"), (20, .class_ 376), (0, u "java/util/Arrays$ArrayList"), (68, u "$assertionsDisabled"), (269, u "MIN_ARRAY_SORT_GRAN"), (0, u "I"), (2, u "INSERTIONSORT_THRESHOLD"), (151, u "([II)[I"), (103, .class_ 976), (0, u "java/util/Arrays$ArrayItr")] 52

def k16m0 : Method := { name := "<init>", desc := "()V", sig := { parameters := [], returnType := none }, accessFlags := 2, code := none }
def k16c1 : Code := { maxStack := 6, maxLocals := 3, code := jdk_65_method_123_code, exceptionTable := #[], attributes := #[] }
def k16m1 : Method := { name := "copyOf", desc := "([II)[I", sig := { parameters := [(.array .int), .int], returnType := some (.array .int) }, accessFlags := 9, code := some k16c1 }
def k16c2 : Code := { maxStack := 4, maxLocals := 2, code := jdk_65_method_131_code, exceptionTable := #[], attributes := #[] }
def k16m2 : Method := { name := "checkLength", desc := "(II)V", sig := { parameters := [.int, .int], returnType := none }, accessFlags := 10, code := some k16c2 }
def k16c3 : Code := { maxStack := 3, maxLocals := 3, code := jdk_65_method_136_code, exceptionTable := #[], attributes := #[] }
def k16m3 : Method := { name := "copyOfRange", desc := "([III)[I", sig := { parameters := [(.array .int), .int, .int], returnType := some (.array .int) }, accessFlags := 9, code := some k16c3 }
def k16c4 : Code := { maxStack := 6, maxLocals := 5, code := jdk_65_method_137_code, exceptionTable := #[], attributes := #[] }
def k16m4 : Method := { name := "copyOfRangeInt", desc := "([III)[I", sig := { parameters := [(.array .int), .int, .int], returnType := some (.array .int) }, accessFlags := 10, code := some k16c4 }
/-- java/util/Arrays -/
def k16 : Class := { plain "java/util/Arrays" (some 0) with
  accessFlags := 49
  interfaces := #[]
  cf := some (fileOf pool16 14 #[.nestMembers #[975, 375, 113, 74]] #[{ accessFlags := 2, nameIndex := 5, descriptorIndex := 6, attributes := #[] }, { accessFlags := 9, nameIndex := 302, descriptorIndex := 871, attributes := #[] }, { accessFlags := 10, nameIndex := 345, descriptorIndex := 346, attributes := #[] }, { accessFlags := 9, nameIndex := 139, descriptorIndex := 354, attributes := #[] }, { accessFlags := 10, nameIndex := 353, descriptorIndex := 354, attributes := #[] }] 49 2 #[] #[{ accessFlags := 26, nameIndex := 715, descriptorIndex := 716, attributes := #[] }, { accessFlags := 26, nameIndex := 719, descriptorIndex := 716, attributes := #[] }, { accessFlags := 4120, nameIndex := 445, descriptorIndex := 117, attributes := #[] }])
  fields := #[{ name := "MIN_ARRAY_SORT_GRAN", type := .int, accessFlags := 26, slot := 0, constantValue := 0 }, { name := "INSERTIONSORT_THRESHOLD", type := .int, accessFlags := 26, slot := 1, constantValue := 0 }, { name := "$assertionsDisabled", type := .boolean, accessFlags := 4120, slot := 2, constantValue := 0 }]
  methods := #[k16m0, k16m1, k16m2, k16m3, k16m4]
  instanceTypes := #[]
  staticTypes := #[.int, .int, .boolean]
  resolved := Array.replicate 1029 none
  statics := none }

def pool17 : Array CpInfo := pool [(1, .class_ 2), (0, u "java/lang/Cloneable"), (0, .class_ 4), (0, u "java/lang/Object")] 2

/-- java/lang/Cloneable -/
def k17 : Class := { plain "java/lang/Cloneable" (some 0) with
  accessFlags := 1537
  interfaces := #[]
  cf := some (fileOf pool17 1 #[] #[] 1537 3 #[] #[])
  fields := #[]
  methods := #[]
  instanceTypes := #[]
  staticTypes := #[]
  resolved := Array.replicate 7 none
  statics := none }

def pool18 : Array CpInfo := pool [(1, .class_ 2), (0, u "java/lang/Math"), (1, .class_ 6), (1, u "java/lang/Object"), (0, u "<init>"), (0, u "()V"), (89, .class_ 100), (1, u "java/lang/Math$RandomNumberGeneratorHolder"), (23, u "abs"), (34, u "(I)I"), (12, u "negativeZeroFloatBits"), (0, u "J"), (2, u "negativeZeroDoubleBits"), (24, u "min"), (43, u "$assertionsDisabled"), (0, u "Z"), (88, u "(II)I"), (2, u "twoToTheDoubleScaleDown"), (0, u "D"), (4, u "twoToTheDoubleScaleUp"), (9, u "E"), (3, u "PI"), (2, u "TAU"), (2, u "DEGREES_TO_RADIANS"), (0, u "RADIANS_TO_DEGREES")] 94

def k18m0 : Method := { name := "<init>", desc := "()V", sig := { parameters := [], returnType := none }, accessFlags := 2, code := none }
def k18c1 : Code := { maxStack := 1, maxLocals := 1, code := jdk_29_method_59_code, exceptionTable := #[], attributes := #[] }
def k18m1 : Method := { name := "abs", desc := "(I)I", sig := { parameters := [.int], returnType := some .int }, accessFlags := 9, code := some k18c1 }
def k18c2 : Code := { maxStack := 2, maxLocals := 2, code := jdk_29_method_69_code, exceptionTable := #[], attributes := #[] }
def k18m2 : Method := { name := "min", desc := "(II)I", sig := { parameters := [.int, .int], returnType := some .int }, accessFlags := 9, code := some k18c2 }
/-- java/lang/Math -/
def k18 : Class := { plain "java/lang/Math" (some 0) with
  accessFlags := 49
  interfaces := #[]
  cf := some (fileOf pool18 1 #[.nestMembers #[98]] #[{ accessFlags := 2, nameIndex := 7, descriptorIndex := 8, attributes := #[] }, { accessFlags := 9, nameIndex := 124, descriptorIndex := 159, attributes := #[] }, { accessFlags := 9, nameIndex := 201, descriptorIndex := 335, attributes := #[] }] 49 4 #[] #[{ accessFlags := 25, nameIndex := 354, descriptorIndex := 339, attributes := #[] }, { accessFlags := 25, nameIndex := 358, descriptorIndex := 339, attributes := #[] }, { accessFlags := 25, nameIndex := 361, descriptorIndex := 339, attributes := #[] }, { accessFlags := 26, nameIndex := 364, descriptorIndex := 339, attributes := #[] }, { accessFlags := 26, nameIndex := 365, descriptorIndex := 339, attributes := #[] }, { accessFlags := 26, nameIndex := 172, descriptorIndex := 173, attributes := #[] }, { accessFlags := 26, nameIndex := 176, descriptorIndex := 173, attributes := #[] }, { accessFlags := 8, nameIndex := 344, descriptorIndex := 339, attributes := #[] }, { accessFlags := 8, nameIndex := 338, descriptorIndex := 339, attributes := #[] }, { accessFlags := 4120, nameIndex := 245, descriptorIndex := 246, attributes := #[] }])
  fields := #[{ name := "E", type := .double, accessFlags := 25, slot := 0, constantValue := 0 }, { name := "PI", type := .double, accessFlags := 25, slot := 1, constantValue := 0 }, { name := "TAU", type := .double, accessFlags := 25, slot := 2, constantValue := 0 }, { name := "DEGREES_TO_RADIANS", type := .double, accessFlags := 26, slot := 3, constantValue := 0 }, { name := "RADIANS_TO_DEGREES", type := .double, accessFlags := 26, slot := 4, constantValue := 0 }, { name := "negativeZeroFloatBits", type := .long, accessFlags := 26, slot := 5, constantValue := 0 }, { name := "negativeZeroDoubleBits", type := .long, accessFlags := 26, slot := 6, constantValue := 0 }, { name := "twoToTheDoubleScaleUp", type := .double, accessFlags := 8, slot := 7, constantValue := 0 }, { name := "twoToTheDoubleScaleDown", type := .double, accessFlags := 8, slot := 8, constantValue := 0 }, { name := "$assertionsDisabled", type := .boolean, accessFlags := 4120, slot := 9, constantValue := 0 }]
  methods := #[k18m0, k18m1, k18m2]
  instanceTypes := #[]
  staticTypes := #[.double, .double, .double, .double, .double, .long, .long, .double, .double, .boolean]
  resolved := Array.replicate 460 none
  statics := none }

def pool19 : Array CpInfo := pool [(2, .class_ 4), (1, u "java/lang/Object"), (0, u "<init>"), (0, u "()V"), (17, .class_ 26), (1, u "jdk/internal/util/Preconditions"), (20, u "checkFromToIndex"), (7, .class_ 56), (0, u "jdk/internal/util/Preconditions$4"), (57, .class_ 115), (0, u "jdk/internal/util/Preconditions$1"), (7, u "SIOOBE_FORMATTER"), (0, u "Ljava/util/function/BiFunction;"), (0, .class_ 126), (0, u "jdk/internal/util/Preconditions$2"), (3, u "AIOOBE_FORMATTER"), (0, .class_ 132), (0, u "jdk/internal/util/Preconditions$3"), (3, u "IOOBE_FORMATTER"), (46, u "(IIILjava/util/function/BiFunction;)I")] 10

def k19m0 : Method := { name := "<init>", desc := "()V", sig := { parameters := [], returnType := none }, accessFlags := 1, code := none }
def k19c1 : Code := { maxStack := 4, maxLocals := 4, code := jdk_41_method_12_code, exceptionTable := #[], attributes := #[] }
def k19m1 : Method := { name := "checkFromToIndex", desc := "(IIILjava/util/function/BiFunction;)I", sig := { parameters := [.int, .int, .int, (.object "java/util/function/BiFunction")], returnType := some .int }, accessFlags := 9, code := some k19c1 }
/-- jdk/internal/util/Preconditions -/
def k19 : Class := { plain "jdk/internal/util/Preconditions" (some 0) with
  accessFlags := 33
  interfaces := #[]
  cf := some (fileOf pool19 24 #[.nestMembers #[55, 131, 125, 114]] #[{ accessFlags := 1, nameIndex := 5, descriptorIndex := 6, attributes := #[] }, { accessFlags := 9, nameIndex := 47, descriptorIndex := 183, attributes := #[] }] 33 2 #[] #[{ accessFlags := 25, nameIndex := 123, descriptorIndex := 124, attributes := #[] }, { accessFlags := 25, nameIndex := 130, descriptorIndex := 124, attributes := #[] }, { accessFlags := 25, nameIndex := 136, descriptorIndex := 124, attributes := #[] }])
  fields := #[{ name := "SIOOBE_FORMATTER", type := (.object "java/util/function/BiFunction"), accessFlags := 25, slot := 0, constantValue := 0 }, { name := "AIOOBE_FORMATTER", type := (.object "java/util/function/BiFunction"), accessFlags := 25, slot := 1, constantValue := 0 }, { name := "IOOBE_FORMATTER", type := (.object "java/util/function/BiFunction"), accessFlags := 25, slot := 2, constantValue := 0 }]
  methods := #[k19m0, k19m1]
  instanceTypes := #[]
  staticTypes := #[(.object "java/util/function/BiFunction"), (.object "java/util/function/BiFunction"), (.object "java/util/function/BiFunction")]
  resolved := Array.replicate 194 none
  statics := none }

/-- the primitive byte -/
def k20 : Class := { plain "byte" none with kind := .primitive 'B', accessFlags := 0x411 }
/-- [B -/
def k21 : Class := { plain "[B" (some 0) with kind := .array 20 .byte, interfaces := #[17, 5], accessFlags := 1041 }

/-- the primitive int -/
def k22 : Class := { plain "int" none with kind := .primitive 'I', accessFlags := 0x411 }
/-- [I -/
def k23 : Class := { plain "[I" (some 0) with kind := .array 22 .int, interfaces := #[17, 5], accessFlags := 1041 }

/-- [Ljava/math/BigInteger; -/
def k24 : Class := { plain "[Ljava/math/BigInteger;" (some 0) with kind := .array 7 (.object "java/math/BigInteger"), interfaces := #[17, 5], accessFlags := 1041 }

def heap : Heap := #[{ cls := 7, slots := #[.long 0, .int 0, .int 0, .int 0, .int 0, .int 0, .int 0, .int 0, .int 0, .int 0, .int 0, .int 0, .null, .int 0, .int 0, .null, .int 0, .ref 1, .ref 2, .null, .null, .double 0, .ref 35, .ref 3, .ref 4, .ref 19, .ref 12, .null, .int 0, .null, .null, .null, .null, .null, .long 0, .null, .int 0], vm := .statics 7 },
  { cls := 24, slots := #[.null, .ref 3, .ref 4, .ref 5, .ref 6, .ref 7, .ref 8, .ref 9, .ref 10, .ref 11, .ref 12, .ref 13, .ref 14, .ref 15, .ref 16, .ref 17, .ref 18], vm := .none },
  { cls := 24, slots := #[.null, .ref 19, .ref 20, .ref 21, .ref 22, .ref 23, .ref 24, .ref 25, .ref 26, .ref 27, .ref 28, .ref 29, .ref 30, .ref 31, .ref 32, .ref 33, .ref 34], vm := .none },
  { cls := 7, slots := #[.int 1, .ref 36, .int 0, .int 0, .int 0, .int 0], vm := .none },
  { cls := 7, slots := #[.int 1, .ref 37, .int 0, .int 0, .int 0, .int 0], vm := .none },
  { cls := 7, slots := #[.int 1, .ref 38, .int 0, .int 0, .int 0, .int 0], vm := .none },
  { cls := 7, slots := #[.int 1, .ref 39, .int 0, .int 0, .int 0, .int 0], vm := .none },
  { cls := 7, slots := #[.int 1, .ref 40, .int 0, .int 0, .int 0, .int 0], vm := .none },
  { cls := 7, slots := #[.int 1, .ref 41, .int 0, .int 0, .int 0, .int 0], vm := .none },
  { cls := 7, slots := #[.int 1, .ref 42, .int 0, .int 0, .int 0, .int 0], vm := .none },
  { cls := 7, slots := #[.int 1, .ref 43, .int 0, .int 0, .int 0, .int 0], vm := .none },
  { cls := 7, slots := #[.int 1, .ref 44, .int 0, .int 0, .int 0, .int 0], vm := .none },
  { cls := 7, slots := #[.int 1, .ref 45, .int 0, .int 0, .int 0, .int 0], vm := .none },
  { cls := 7, slots := #[.int 1, .ref 46, .int 0, .int 0, .int 0, .int 0], vm := .none },
  { cls := 7, slots := #[.int 1, .ref 47, .int 0, .int 0, .int 0, .int 0], vm := .none },
  { cls := 7, slots := #[.int 1, .ref 48, .int 0, .int 0, .int 0, .int 0], vm := .none },
  { cls := 7, slots := #[.int 1, .ref 49, .int 0, .int 0, .int 0, .int 0], vm := .none },
  { cls := 7, slots := #[.int 1, .ref 50, .int 0, .int 0, .int 0, .int 0], vm := .none },
  { cls := 7, slots := #[.int 1, .ref 51, .int 0, .int 0, .int 0, .int 0], vm := .none },
  { cls := 7, slots := #[.int (-1), .ref 36, .int 0, .int 0, .int 0, .int 0], vm := .none },
  { cls := 7, slots := #[.int (-1), .ref 37, .int 0, .int 0, .int 0, .int 0], vm := .none },
  { cls := 7, slots := #[.int (-1), .ref 38, .int 0, .int 0, .int 0, .int 0], vm := .none },
  { cls := 7, slots := #[.int (-1), .ref 39, .int 0, .int 0, .int 0, .int 0], vm := .none },
  { cls := 7, slots := #[.int (-1), .ref 40, .int 0, .int 0, .int 0, .int 0], vm := .none },
  { cls := 7, slots := #[.int (-1), .ref 41, .int 0, .int 0, .int 0, .int 0], vm := .none },
  { cls := 7, slots := #[.int (-1), .ref 42, .int 0, .int 0, .int 0, .int 0], vm := .none },
  { cls := 7, slots := #[.int (-1), .ref 43, .int 0, .int 0, .int 0, .int 0], vm := .none },
  { cls := 7, slots := #[.int (-1), .ref 44, .int 0, .int 0, .int 0, .int 0], vm := .none },
  { cls := 7, slots := #[.int (-1), .ref 45, .int 0, .int 0, .int 0, .int 0], vm := .none },
  { cls := 7, slots := #[.int (-1), .ref 46, .int 0, .int 0, .int 0, .int 0], vm := .none },
  { cls := 7, slots := #[.int (-1), .ref 47, .int 0, .int 0, .int 0, .int 0], vm := .none },
  { cls := 7, slots := #[.int (-1), .ref 48, .int 0, .int 0, .int 0, .int 0], vm := .none },
  { cls := 7, slots := #[.int (-1), .ref 49, .int 0, .int 0, .int 0, .int 0], vm := .none },
  { cls := 7, slots := #[.int (-1), .ref 50, .int 0, .int 0, .int 0, .int 0], vm := .none },
  { cls := 7, slots := #[.int (-1), .ref 51, .int 0, .int 0, .int 0, .int 0], vm := .none },
  { cls := 7, slots := #[.int 0, .ref 52, .int 0, .int 0, .int 0, .int 0], vm := .none },
  { cls := 23, slots := #[.int 1], vm := .none },
  { cls := 23, slots := #[.int 2], vm := .none },
  { cls := 23, slots := #[.int 3], vm := .none },
  { cls := 23, slots := #[.int 4], vm := .none },
  { cls := 23, slots := #[.int 5], vm := .none },
  { cls := 23, slots := #[.int 6], vm := .none },
  { cls := 23, slots := #[.int 7], vm := .none },
  { cls := 23, slots := #[.int 8], vm := .none },
  { cls := 23, slots := #[.int 9], vm := .none },
  { cls := 23, slots := #[.int 10], vm := .none },
  { cls := 23, slots := #[.int 11], vm := .none },
  { cls := 23, slots := #[.int 12], vm := .none },
  { cls := 23, slots := #[.int 13], vm := .none },
  { cls := 23, slots := #[.int 14], vm := .none },
  { cls := 23, slots := #[.int 15], vm := .none },
  { cls := 23, slots := #[.int 16], vm := .none },
  { cls := 23, slots := #[], vm := .none }]
def classes : Array Class := #[k0, k1, k2, k3, k4, k5, k6, k7, k8, k9, k10, k11, k12, k13, k14, k15, k16, k17, k18, k19, k20, k21, k22, k23, k24]
def interned : List (Array UInt16 × Addr) := []
def slotsUsed : Nat := 285
def theMethod : MethodId := ⟨1, 1⟩
def args0 : Array Value := #[.int 5, .int 3]
def aboutOver (below : List Frame) : State where
  vm := { classes := classes, interned := interned.toArray }
  heap := heap
  slotsUsed := slotsUsed
  threads := #[{ frames := .invoking theMethod args0 :: below }]
def below0 : List Frame := [.native { method := ⟨0, 0⟩, args := #[] }]
def about1 : State := aboutOver below0
def p0 : Program := .bare "" "" ""
def e0 : Env := launch0.env 0 0 0
theorem w_frames : about1.frames = Frame.invoking theMethod args0 :: below0 := rfl
set_option maxRecDepth 65536 in
theorem w_args : argsFit about1.vm theMethod args0 = true := by decide +kernel
set_option maxRecDepth 65536 in
theorem w_heap : heapFits about1 = true := by decide +kernel
set_option maxRecDepth 65536 in
theorem w_runnable : about1.curStatus? = some .runnable := by decide +kernel
set_option maxRecDepth 65536 in
theorem w_alone : about1.alone = true := by decide +kernel
set_option maxRecDepth 65536 in
theorem w_named : about1.methodNamed? x = some theMethod := by decide +kernel
set_option maxRecDepth 65536 in
theorem w_hears : about1.hears theMethod below0 = true := by decide +kernel
set_option maxRecDepth 65536 in
theorem w_ripe : about1.ripe theMethod args0 below0 = true := by decide +kernel
theorem w_running : about1.status = .running := rfl
set_option maxRecDepth 65536 in
theorem w_room : about1.hasRoom e0.platform room_1 = true :=
  launch0.hasRoom_least _ room_1 (by decide +kernel) (by decide +kernel) (by decide +kernel) (by decide +kernel) (by decide +kernel) (by decide +kernel)
theorem allAtoms_all (ts : List Jvm.Cond) (a : Array Jvm.Value) (st : Jvm.State) : (allAtoms ts).before a st = ts.all (fun c => c.before a st) := by
  induction ts with
  | nil => rfl
  | cons c t ih =>
    show (Jvm.Cond.and c (allAtoms t)).before a st = _
    rw [Jvm.Cond.before_and, ih, List.all_cons]
def words1 : List Jvm.Cond := Jvm.Cond.code x code maxLocals ret :: tables_1
/-- a 'code' word, met by the world's own term for the bytes: nothing is compared byte by byte -/
theorem code_word {y : MethodName} {bytes : ByteArray} {mx : Nat} {rt : Option FieldType} {a : Array Value} {s : State} {m : MethodId} {meth : Method} {c : Code} (h1 : s.methodNamed? y = some m) (h2 : s.vm.method? m = some meth) (h3 : meth.code = some c) (h4 : c.code = bytes)
    (h5 : (c.maxLocals == mx && c.exceptionTable.isEmpty && decide (c.maxStack ≤ mostOperands) && decide (meth.sig.returnType = rt) && !meth.locks && decide (parseMethodDescriptor y.desc = some meth.sig)) = true) : (Jvm.Cond.code y bytes mx rt).before a s = true := by
  simp only [Bool.and_eq_true, beq_iff_eq, Bool.not_eq_true', decide_eq_true_eq] at h5
  obtain ⟨⟨⟨⟨⟨g1, g2⟩, g3⟩, g4⟩, g5⟩, g6⟩ := h5
  simp [Cond.before, Cond.holds, Cond.value, h1, h2, h3, h4, g1, g2, g3, g4, g5, g6]
def isCode : Jvm.Cond → Bool
  | .code _ _ _ _ => true
  | _ => false
theorem all_split {L : List Jvm.Cond} {P : Jvm.Cond → Bool} (h1 : L.all (fun c => isCode c || P c) = true) (h2 : ∀ c ∈ L.filter isCode, P c = true) : L.all P = true := by
  refine List.all_eq_true.mpr fun c hc => ?_
  have h := List.all_eq_true.mp h1 c hc
  rcases Bool.eq_false_or_eq_true (isCode c) with hi | hi
  · exact h2 c (List.mem_filter.mpr ⟨hc, hi⟩)
  · simpa [hi] using h
set_option maxRecDepth 65536 in
theorem w_c0 : (Jvm.Cond.code x code maxLocals ret).before args0 about1 = true := code_word (m := ⟨1, 1⟩) (meth := k1m1) (c := k1c1) (by decide +kernel) rfl rfl rfl (by decide +kernel)
set_option maxRecDepth 65536 in
theorem w_c1 : (Jvm.Cond.code ({ cls := "com/example/curves_to_bounds/curvestobounds/curve/Curve", name := "requirePairs", desc := "(II)V" } : Jvm.MethodName) prog_26_method_4_code (2 : Nat) (Option.none : Option Jvm.ClassFile.FieldType)).before args0 about1 = true := code_word (m := ⟨2, 0⟩) (meth := k2m0) (c := k2c0) (by decide +kernel) rfl rfl rfl (by decide +kernel)
set_option maxRecDepth 65536 in
theorem w_c2 : (Jvm.Cond.code ({ cls := "com/example/curves_to_bounds/curvestobounds/curve/Rational", name := "valueOf", desc := "(J)Lcom/example/curves_to_bounds/curvestobounds/curve/Rational;" } : Jvm.MethodName) prog_31_method_2_code (2 : Nat) (Option.some (Jvm.ClassFile.FieldType.object "com/example/curves_to_bounds/curvestobounds/curve/Rational"))).before args0 about1 = true := code_word (m := ⟨4, 1⟩) (meth := k4m1) (c := k4c1) (by decide +kernel) rfl rfl rfl (by decide +kernel)
set_option maxRecDepth 65536 in
theorem w_c3 : (Jvm.Cond.code ({ cls := "java/math/BigInteger", name := "valueOf", desc := "(J)Ljava/math/BigInteger;" } : Jvm.MethodName) jdk_2097_method_29_code (2 : Nat) (Option.some (Jvm.ClassFile.FieldType.object "java/math/BigInteger"))).before args0 about1 = true := code_word (m := ⟨7, 1⟩) (meth := k7m1) (c := k7c1) (by decide +kernel) rfl rfl rfl (by decide +kernel)
set_option maxRecDepth 65536 in
theorem w_c4 : (Jvm.Cond.code ({ cls := "com/example/curves_to_bounds/curvestobounds/curve/Rational", name := "<init>", desc := "(Ljava/math/BigInteger;Ljava/math/BigInteger;)V" } : Jvm.MethodName) prog_31_method_1_code (3 : Nat) (Option.none : Option Jvm.ClassFile.FieldType)).before args0 about1 = true := code_word (m := ⟨4, 0⟩) (meth := k4m0) (c := k4c0) (by decide +kernel) rfl rfl rfl (by decide +kernel)
set_option maxRecDepth 65536 in
theorem w_c5 : (Jvm.Cond.code ({ cls := "java/lang/Object", name := "<init>", desc := "()V" } : Jvm.MethodName) object_method_1_code (1 : Nat) (Option.none : Option Jvm.ClassFile.FieldType)).before args0 about1 = true := code_word (m := ⟨0, 0⟩) (meth := k0m0) (c := k0c0) (by decide +kernel) rfl rfl rfl (by decide +kernel)
set_option maxRecDepth 65536 in
theorem w_c6 : (Jvm.Cond.code ({ cls := "com/example/curves_to_bounds/curvestobounds/curve/Curve", name := "tooManyPairs", desc := "(Lcom/example/curves_to_bounds/curvestobounds/curve/Rational;Lcom/example/curves_to_bounds/curvestobounds/curve/Rational;)Z" } : Jvm.MethodName) prog_26_method_9_code (2 : Nat) (Option.some Jvm.ClassFile.FieldType.boolean)).before args0 about1 = true := code_word (m := ⟨2, 1⟩) (meth := k2m1) (c := k2c1) (by decide +kernel) rfl rfl rfl (by decide +kernel)
set_option maxRecDepth 65536 in
theorem w_c7 : (Jvm.Cond.code ({ cls := "com/example/curves_to_bounds/curvestobounds/curve/Rational", name := "multiply", desc := "(Lcom/example/curves_to_bounds/curvestobounds/curve/Rational;)Lcom/example/curves_to_bounds/curvestobounds/curve/Rational;" } : Jvm.MethodName) prog_31_method_13_code (2 : Nat) (Option.some (Jvm.ClassFile.FieldType.object "com/example/curves_to_bounds/curvestobounds/curve/Rational"))).before args0 about1 = true := code_word (m := ⟨4, 3⟩) (meth := k4m3) (c := k4c3) (by decide +kernel) rfl rfl rfl (by decide +kernel)
set_option maxRecDepth 65536 in
theorem w_c8 : (Jvm.Cond.code ({ cls := "java/math/BigInteger", name := "multiply", desc := "(Ljava/math/BigInteger;)Ljava/math/BigInteger;" } : Jvm.MethodName) jdk_2097_method_40_code (2 : Nat) (Option.some (Jvm.ClassFile.FieldType.object "java/math/BigInteger"))).before args0 about1 = true := code_word (m := ⟨7, 3⟩) (meth := k7m3) (c := k7c3) (by decide +kernel) rfl rfl rfl (by decide +kernel)
set_option maxRecDepth 65536 in
theorem w_c9 : (Jvm.Cond.code ({ cls := "java/math/BigInteger", name := "multiply", desc := "(Ljava/math/BigInteger;ZZI)Ljava/math/BigInteger;" } : Jvm.MethodName) jdk_2097_method_42_code (9 : Nat) (Option.some (Jvm.ClassFile.FieldType.object "java/math/BigInteger"))).before args0 about1 = true := code_word (m := ⟨7, 4⟩) (meth := k7m4) (c := k7c4) (by decide +kernel) rfl rfl rfl (by decide +kernel)
set_option maxRecDepth 65536 in
theorem w_c10 : (Jvm.Cond.code ({ cls := "java/math/BigInteger", name := "multiplyByInt", desc := "([III)Ljava/math/BigInteger;" } : Jvm.MethodName) jdk_2097_method_43_code (13 : Nat) (Option.some (Jvm.ClassFile.FieldType.object "java/math/BigInteger"))).before args0 about1 = true := code_word (m := ⟨7, 5⟩) (meth := k7m5) (c := k7c5) (by decide +kernel) rfl rfl rfl (by decide +kernel)
set_option maxRecDepth 65536 in
theorem w_c11 : (Jvm.Cond.code ({ cls := "java/lang/Integer", name := "bitCount", desc := "(I)I" } : Jvm.MethodName) jdk_33_method_49_code (1 : Nat) (Option.some Jvm.ClassFile.FieldType.int)).before args0 about1 = true := code_word (m := ⟨10, 2⟩) (meth := k10m2) (c := k10c2) (by decide +kernel) rfl rfl rfl (by decide +kernel)
set_option maxRecDepth 65536 in
theorem w_c12 : (Jvm.Cond.code ({ cls := "java/lang/Integer", name := "numberOfTrailingZeros", desc := "(I)I" } : Jvm.MethodName) jdk_33_method_48_code (2 : Nat) (Option.some Jvm.ClassFile.FieldType.int)).before args0 about1 = true := code_word (m := ⟨10, 1⟩) (meth := k10m1) (c := k10c1) (by decide +kernel) rfl rfl rfl (by decide +kernel)
set_option maxRecDepth 65536 in
theorem w_c13 : (Jvm.Cond.code ({ cls := "java/math/BigInteger", name := "shiftLeft", desc := "([II)[I" } : Jvm.MethodName) jdk_2097_method_102_code (10 : Nat) (Option.some (Jvm.ClassFile.FieldType.array Jvm.ClassFile.FieldType.int))).before args0 about1 = true := code_word (m := ⟨7, 12⟩) (meth := k7m12) (c := k7c12) (by decide +kernel) rfl rfl rfl (by decide +kernel)
set_option maxRecDepth 65536 in
theorem w_c14 : (Jvm.Cond.code ({ cls := "java/math/BigInteger", name := "<init>", desc := "([II)V" } : Jvm.MethodName) jdk_2097_method_25_code (3 : Nat) (Option.none : Option Jvm.ClassFile.FieldType)).before args0 about1 = true := code_word (m := ⟨7, 0⟩) (meth := k7m0) (c := k7c0) (by decide +kernel) rfl rfl rfl (by decide +kernel)
set_option maxRecDepth 65536 in
theorem w_c15 : (Jvm.Cond.code ({ cls := "java/lang/Number", name := "<init>", desc := "()V" } : Jvm.MethodName) jdk_18_method_1_code (1 : Nat) (Option.none : Option Jvm.ClassFile.FieldType)).before args0 about1 = true := code_word (m := ⟨6, 0⟩) (meth := k6m0) (c := k6c0) (by decide +kernel) rfl rfl rfl (by decide +kernel)
set_option maxRecDepth 65536 in
theorem w_c16 : (Jvm.Cond.code ({ cls := "com/example/curves_to_bounds/curvestobounds/curve/Rational", name := "valueOf", desc := "(Ljava/math/BigInteger;Ljava/math/BigInteger;)Lcom/example/curves_to_bounds/curvestobounds/curve/Rational;" } : Jvm.MethodName) prog_31_method_4_code (5 : Nat) (Option.some (Jvm.ClassFile.FieldType.object "com/example/curves_to_bounds/curvestobounds/curve/Rational"))).before args0 about1 = true := code_word (m := ⟨4, 2⟩) (meth := k4m2) (c := k4c2) (by decide +kernel) rfl rfl rfl (by decide +kernel)
set_option maxRecDepth 65536 in
theorem w_c17 : (Jvm.Cond.code ({ cls := "java/util/Objects", name := "requireNonNull", desc := "(Ljava/lang/Object;Ljava/lang/String;)Ljava/lang/Object;" } : Jvm.MethodName) jdk_31_method_11_code (2 : Nat) (Option.some (Jvm.ClassFile.FieldType.object "java/lang/Object"))).before args0 about1 = true := code_word (m := ⟨14, 1⟩) (meth := k14m1) (c := k14c1) (by decide +kernel) rfl rfl rfl (by decide +kernel)
set_option maxRecDepth 65536 in
theorem w_c18 : (Jvm.Cond.code ({ cls := "java/math/BigInteger", name := "signum", desc := "()I" } : Jvm.MethodName) jdk_2097_method_81_code (1 : Nat) (Option.some Jvm.ClassFile.FieldType.int)).before args0 about1 = true := code_word (m := ⟨7, 11⟩) (meth := k7m11) (c := k7c11) (by decide +kernel) rfl rfl rfl (by decide +kernel)
set_option maxRecDepth 65536 in
theorem w_c19 : (Jvm.Cond.code ({ cls := "java/math/BigInteger", name := "gcd", desc := "(Ljava/math/BigInteger;)Ljava/math/BigInteger;" } : Jvm.MethodName) jdk_2097_method_73_code (5 : Nat) (Option.some (Jvm.ClassFile.FieldType.object "java/math/BigInteger"))).before args0 about1 = true := code_word (m := ⟨7, 8⟩) (meth := k7m8) (c := k7c8) (by decide +kernel) rfl rfl rfl (by decide +kernel)
set_option maxRecDepth 65536 in
theorem w_c20 : (Jvm.Cond.code ({ cls := "java/math/BigInteger", name := "abs", desc := "()Ljava/math/BigInteger;" } : Jvm.MethodName) jdk_2097_method_79_code (1 : Nat) (Option.some (Jvm.ClassFile.FieldType.object "java/math/BigInteger"))).before args0 about1 = true := code_word (m := ⟨7, 10⟩) (meth := k7m10) (c := k7c10) (by decide +kernel) rfl rfl rfl (by decide +kernel)
set_option maxRecDepth 65536 in
theorem w_c21 : (Jvm.Cond.code ({ cls := "java/math/BigInteger", name := "divide", desc := "(Ljava/math/BigInteger;)Ljava/math/BigInteger;" } : Jvm.MethodName) jdk_2097_method_61_code (2 : Nat) (Option.some (Jvm.ClassFile.FieldType.object "java/math/BigInteger"))).before args0 about1 = true := code_word (m := ⟨7, 6⟩) (meth := k7m6) (c := k7c6) (by decide +kernel) rfl rfl rfl (by decide +kernel)
set_option maxRecDepth 65536 in
theorem w_c22 : (Jvm.Cond.code ({ cls := "java/math/BigInteger", name := "divideKnuth", desc := "(Ljava/math/BigInteger;)Ljava/math/BigInteger;" } : Jvm.MethodName) jdk_2097_method_62_code (5 : Nat) (Option.some (Jvm.ClassFile.FieldType.object "java/math/BigInteger"))).before args0 about1 = true := code_word (m := ⟨7, 7⟩) (meth := k7m7) (c := k7c7) (by decide +kernel) rfl rfl rfl (by decide +kernel)
set_option maxRecDepth 65536 in
theorem w_c23 : (Jvm.Cond.code ({ cls := "java/math/MutableBigInteger", name := "<init>", desc := "()V" } : Jvm.MethodName) jdk_2101_method_1_code (1 : Nat) (Option.none : Option Jvm.ClassFile.FieldType)).before args0 about1 = true := code_word (m := ⟨15, 0⟩) (meth := k15m0) (c := k15c0) (by decide +kernel) rfl rfl rfl (by decide +kernel)
set_option maxRecDepth 65536 in
theorem w_c24 : (Jvm.Cond.code ({ cls := "java/math/MutableBigInteger", name := "<init>", desc := "([I)V" } : Jvm.MethodName) jdk_2101_method_3_code (2 : Nat) (Option.none : Option Jvm.ClassFile.FieldType)).before args0 about1 = true := code_word (m := ⟨15, 1⟩) (meth := k15m1) (c := k15c1) (by decide +kernel) rfl rfl rfl (by decide +kernel)
set_option maxRecDepth 65536 in
theorem w_c25 : (Jvm.Cond.code ({ cls := "java/math/MutableBigInteger", name := "divideKnuth", desc := "(Ljava/math/MutableBigInteger;Ljava/math/MutableBigInteger;Z)Ljava/math/MutableBigInteger;" } : Jvm.MethodName) jdk_2101_method_57_code (8 : Nat) (Option.some (Jvm.ClassFile.FieldType.object "java/math/MutableBigInteger"))).before args0 about1 = true := code_word (m := ⟨15, 14⟩) (meth := k15m14) (c := k15c14) (by decide +kernel) rfl rfl rfl (by decide +kernel)
set_option maxRecDepth 65536 in
theorem w_c26 : (Jvm.Cond.code ({ cls := "java/math/MutableBigInteger", name := "toBigInteger", desc := "(I)Ljava/math/BigInteger;" } : Jvm.MethodName) jdk_2101_method_9_code (2 : Nat) (Option.some (Jvm.ClassFile.FieldType.object "java/math/BigInteger"))).before args0 about1 = true := code_word (m := ⟨15, 4⟩) (meth := k15m4) (c := k15c4) (by decide +kernel) rfl rfl rfl (by decide +kernel)
set_option maxRecDepth 65536 in
theorem w_c27 : (Jvm.Cond.code ({ cls := "java/math/MutableBigInteger", name := "compare", desc := "(Ljava/math/MutableBigInteger;)I" } : Jvm.MethodName) jdk_2101_method_15_code (8 : Nat) (Option.some Jvm.ClassFile.FieldType.int)).before args0 about1 = true := code_word (m := ⟨15, 6⟩) (meth := k15m6) (c := k15c6) (by decide +kernel) rfl rfl rfl (by decide +kernel)
set_option maxRecDepth 65536 in
theorem w_c28 : (Jvm.Cond.code ({ cls := "java/math/MutableBigInteger", name := "getMagnitudeArray", desc := "()[I" } : Jvm.MethodName) jdk_2101_method_7_code (2 : Nat) (Option.some (Jvm.ClassFile.FieldType.array Jvm.ClassFile.FieldType.int))).before args0 about1 = true := code_word (m := ⟨15, 3⟩) (meth := k15m3) (c := k15c3) (by decide +kernel) rfl rfl rfl (by decide +kernel)
set_option maxRecDepth 65536 in
theorem w_c29 : (Jvm.Cond.code ({ cls := "java/math/BigInteger", name := "<init>", desc := "(J)V" } : Jvm.MethodName) jdk_2097_method_30_code (4 : Nat) (Option.none : Option Jvm.ClassFile.FieldType)).before args0 about1 = true := code_word (m := ⟨7, 2⟩) (meth := k7m2) (c := k7c2) (by decide +kernel) rfl rfl rfl (by decide +kernel)
set_option maxRecDepth 65536 in
theorem w_c30 : (Jvm.Cond.code ({ cls := "com/example/curves_to_bounds/curvestobounds/curve/Rational", name := "compareTo", desc := "(Lcom/example/curves_to_bounds/curvestobounds/curve/Rational;)I" } : Jvm.MethodName) prog_31_method_20_code (2 : Nat) (Option.some Jvm.ClassFile.FieldType.int)).before args0 about1 = true := code_word (m := ⟨4, 4⟩) (meth := k4m4) (c := k4c4) (by decide +kernel) rfl rfl rfl (by decide +kernel)
set_option maxRecDepth 65536 in
theorem w_c31 : (Jvm.Cond.code ({ cls := "java/math/BigInteger", name := "compareTo", desc := "(Ljava/math/BigInteger;)I" } : Jvm.MethodName) jdk_2097_method_121_code (2 : Nat) (Option.some Jvm.ClassFile.FieldType.int)).before args0 about1 = true := code_word (m := ⟨7, 14⟩) (meth := k7m14) (c := k7c14) (by decide +kernel) rfl rfl rfl (by decide +kernel)
set_option maxRecDepth 65536 in
theorem w_c32 : (Jvm.Cond.code ({ cls := "java/math/MutableBigInteger", name := "<init>", desc := "(Ljava/math/BigInteger;)V" } : Jvm.MethodName) jdk_2101_method_4_code (2 : Nat) (Option.none : Option Jvm.ClassFile.FieldType)).before args0 about1 = true := code_word (m := ⟨15, 2⟩) (meth := k15m2) (c := k15c2) (by decide +kernel) rfl rfl rfl (by decide +kernel)
set_option maxRecDepth 65536 in
theorem w_c33 : (Jvm.Cond.code ({ cls := "java/util/Arrays", name := "copyOf", desc := "([II)[I" } : Jvm.MethodName) jdk_65_method_123_code (3 : Nat) (Option.some (Jvm.ClassFile.FieldType.array Jvm.ClassFile.FieldType.int))).before args0 about1 = true := code_word (m := ⟨16, 1⟩) (meth := k16m1) (c := k16c1) (by decide +kernel) rfl rfl rfl (by decide +kernel)
set_option maxRecDepth 65536 in
theorem w_c34 : (Jvm.Cond.code ({ cls := "java/math/MutableBigInteger", name := "hybridGCD", desc := "(Ljava/math/MutableBigInteger;)Ljava/math/MutableBigInteger;" } : Jvm.MethodName) jdk_2101_method_72_code (5 : Nat) (Option.some (Jvm.ClassFile.FieldType.object "java/math/MutableBigInteger"))).before args0 about1 = true := code_word (m := ⟨15, 15⟩) (meth := k15m15) (c := k15c15) (by decide +kernel) rfl rfl rfl (by decide +kernel)
set_option maxRecDepth 65536 in
theorem w_c35 : (Jvm.Cond.code ({ cls := "java/lang/Math", name := "abs", desc := "(I)I" } : Jvm.MethodName) jdk_29_method_59_code (1 : Nat) (Option.some Jvm.ClassFile.FieldType.int)).before args0 about1 = true := code_word (m := ⟨18, 1⟩) (meth := k18m1) (c := k18c1) (by decide +kernel) rfl rfl rfl (by decide +kernel)
set_option maxRecDepth 65536 in
theorem w_c36 : (Jvm.Cond.code ({ cls := "java/math/MutableBigInteger", name := "binaryGCD", desc := "(Ljava/math/MutableBigInteger;)Ljava/math/MutableBigInteger;" } : Jvm.MethodName) jdk_2101_method_73_code (13 : Nat) (Option.some (Jvm.ClassFile.FieldType.object "java/math/MutableBigInteger"))).before args0 about1 = true := code_word (m := ⟨15, 16⟩) (meth := k15m16) (c := k15c16) (by decide +kernel) rfl rfl rfl (by decide +kernel)
set_option maxRecDepth 65536 in
theorem w_c37 : (Jvm.Cond.code ({ cls := "java/math/MutableBigInteger", name := "getLowestSetBit", desc := "()I" } : Jvm.MethodName) jdk_2101_method_18_code (3 : Nat) (Option.some Jvm.ClassFile.FieldType.int)).before args0 about1 = true := code_word (m := ⟨15, 7⟩) (meth := k15m7) (c := k15c7) (by decide +kernel) rfl rfl rfl (by decide +kernel)
set_option maxRecDepth 65536 in
theorem w_c38 : (Jvm.Cond.code ({ cls := "java/math/MutableBigInteger", name := "rightShift", desc := "(I)V" } : Jvm.MethodName) jdk_2101_method_35_code (5 : Nat) (Option.none : Option Jvm.ClassFile.FieldType)).before args0 about1 = true := code_word (m := ⟨15, 9⟩) (meth := k15m9) (c := k15c9) (by decide +kernel) rfl rfl rfl (by decide +kernel)
set_option maxRecDepth 65536 in
theorem w_c39 : (Jvm.Cond.code ({ cls := "java/math/BigInteger", name := "bitLengthForInt", desc := "(I)I" } : Jvm.MethodName) jdk_2097_method_74_code (1 : Nat) (Option.some Jvm.ClassFile.FieldType.int)).before args0 about1 = true := code_word (m := ⟨7, 9⟩) (meth := k7m9) (c := k7c9) (by decide +kernel) rfl rfl rfl (by decide +kernel)
set_option maxRecDepth 65536 in
theorem w_c40 : (Jvm.Cond.code ({ cls := "java/lang/Integer", name := "numberOfLeadingZeros", desc := "(I)I" } : Jvm.MethodName) jdk_33_method_47_code (2 : Nat) (Option.some Jvm.ClassFile.FieldType.int)).before args0 about1 = true := code_word (m := ⟨10, 0⟩) (meth := k10m0) (c := k10c0) (by decide +kernel) rfl rfl rfl (by decide +kernel)
set_option maxRecDepth 65536 in
theorem w_c41 : (Jvm.Cond.code ({ cls := "java/math/MutableBigInteger", name := "primitiveRightShift", desc := "(I)V" } : Jvm.MethodName) jdk_2101_method_41_code (7 : Nat) (Option.none : Option Jvm.ClassFile.FieldType)).before args0 about1 = true := code_word (m := ⟨15, 10⟩) (meth := k15m10) (c := k15c10) (by decide +kernel) rfl rfl rfl (by decide +kernel)
set_option maxRecDepth 65536 in
theorem w_c42 : (Jvm.Cond.code ({ cls := "java/math/MutableBigInteger", name := "binaryGcd", desc := "(II)I" } : Jvm.MethodName) jdk_2101_method_74_code (5 : Nat) (Option.some Jvm.ClassFile.FieldType.int)).before args0 about1 = true := code_word (m := ⟨15, 17⟩) (meth := k15m17) (c := k15c17) (by decide +kernel) rfl rfl rfl (by decide +kernel)
set_option maxRecDepth 65536 in
theorem w_c43 : (Jvm.Cond.code ({ cls := "java/math/MutableBigInteger", name := "clear", desc := "()V" } : Jvm.MethodName) jdk_2101_method_13_code (3 : Nat) (Option.none : Option Jvm.ClassFile.FieldType)).before args0 about1 = true := code_word (m := ⟨15, 5⟩) (meth := k15m5) (c := k15c5) (by decide +kernel) rfl rfl rfl (by decide +kernel)
set_option maxRecDepth 65536 in
theorem w_c44 : (Jvm.Cond.code ({ cls := "java/math/MutableBigInteger", name := "divideOneWord", desc := "(ILjava/math/MutableBigInteger;)I" } : Jvm.MethodName) jdk_2101_method_53_code (15 : Nat) (Option.some Jvm.ClassFile.FieldType.int)).before args0 about1 = true := code_word (m := ⟨15, 13⟩) (meth := k15m13) (c := k15c13) (by decide +kernel) rfl rfl rfl (by decide +kernel)
set_option maxRecDepth 65536 in
theorem w_c45 : (Jvm.Cond.code ({ cls := "java/math/BigInteger", name := "compareMagnitude", desc := "(Ljava/math/BigInteger;)I" } : Jvm.MethodName) jdk_2097_method_122_code (9 : Nat) (Option.some Jvm.ClassFile.FieldType.int)).before args0 about1 = true := code_word (m := ⟨7, 15⟩) (meth := k7m15) (c := k7c15) (by decide +kernel) rfl rfl rfl (by decide +kernel)
set_option maxRecDepth 65536 in
theorem w_c46 : (Jvm.Cond.code ({ cls := "java/util/Arrays", name := "copyOfRange", desc := "([III)[I" } : Jvm.MethodName) jdk_65_method_136_code (3 : Nat) (Option.some (Jvm.ClassFile.FieldType.array Jvm.ClassFile.FieldType.int))).before args0 about1 = true := code_word (m := ⟨16, 3⟩) (meth := k16m3) (c := k16c3) (by decide +kernel) rfl rfl rfl (by decide +kernel)
set_option maxRecDepth 65536 in
theorem w_c47 : (Jvm.Cond.code ({ cls := "java/util/Arrays", name := "copyOfRangeInt", desc := "([III)[I" } : Jvm.MethodName) jdk_65_method_137_code (5 : Nat) (Option.some (Jvm.ClassFile.FieldType.array Jvm.ClassFile.FieldType.int))).before args0 about1 = true := code_word (m := ⟨16, 4⟩) (meth := k16m4) (c := k16c4) (by decide +kernel) rfl rfl rfl (by decide +kernel)
set_option maxRecDepth 65536 in
theorem w_c48 : (Jvm.Cond.code ({ cls := "java/util/Arrays", name := "checkLength", desc := "(II)V" } : Jvm.MethodName) jdk_65_method_131_code (2 : Nat) (Option.none : Option Jvm.ClassFile.FieldType)).before args0 about1 = true := code_word (m := ⟨16, 2⟩) (meth := k16m2) (c := k16c2) (by decide +kernel) rfl rfl rfl (by decide +kernel)
set_option maxRecDepth 65536 in
theorem w_c49 : (Jvm.Cond.code ({ cls := "java/lang/Math", name := "min", desc := "(II)I" } : Jvm.MethodName) jdk_29_method_69_code (2 : Nat) (Option.some Jvm.ClassFile.FieldType.int)).before args0 about1 = true := code_word (m := ⟨18, 2⟩) (meth := k18m2) (c := k18c2) (by decide +kernel) rfl rfl rfl (by decide +kernel)
set_option maxRecDepth 65536 in
theorem w_c50 : (Jvm.Cond.code ({ cls := "java/util/Objects", name := "checkFromToIndex", desc := "(III)I" } : Jvm.MethodName) jdk_31_method_18_code (3 : Nat) (Option.some Jvm.ClassFile.FieldType.int)).before args0 about1 = true := code_word (m := ⟨14, 2⟩) (meth := k14m2) (c := k14c2) (by decide +kernel) rfl rfl rfl (by decide +kernel)
set_option maxRecDepth 65536 in
theorem w_c51 : (Jvm.Cond.code ({ cls := "jdk/internal/util/Preconditions", name := "checkFromToIndex", desc := "(IIILjava/util/function/BiFunction;)I" } : Jvm.MethodName) jdk_41_method_12_code (4 : Nat) (Option.some Jvm.ClassFile.FieldType.int)).before args0 about1 = true := code_word (m := ⟨19, 1⟩) (meth := k19m1) (c := k19c1) (by decide +kernel) rfl rfl rfl (by decide +kernel)
set_option maxRecDepth 65536 in
theorem w_c52 : (Jvm.Cond.code ({ cls := "java/math/BigInteger", name := "shiftLeftImplWorker", desc := "([I[IIII)V" } : Jvm.MethodName) jdk_2097_method_103_code (7 : Nat) (Option.none : Option Jvm.ClassFile.FieldType)).before args0 about1 = true := code_word (m := ⟨7, 13⟩) (meth := k7m13) (c := k7c13) (by decide +kernel) rfl rfl rfl (by decide +kernel)
set_option maxRecDepth 65536 in
theorem w_c53 : (Jvm.Cond.code ({ cls := "java/math/MutableBigInteger", name := "normalize", desc := "()V" } : Jvm.MethodName) jdk_2101_method_21_code (4 : Nat) (Option.none : Option Jvm.ClassFile.FieldType)).before args0 about1 = true := code_word (m := ⟨15, 8⟩) (meth := k15m8) (c := k15c8) (by decide +kernel) rfl rfl rfl (by decide +kernel)
set_option maxRecDepth 65536 in
theorem w_c54 : (Jvm.Cond.code ({ cls := "java/math/MutableBigInteger", name := "primitiveLeftShift", desc := "(I)V" } : Jvm.MethodName) jdk_2101_method_42_code (8 : Nat) (Option.none : Option Jvm.ClassFile.FieldType)).before args0 about1 = true := code_word (m := ⟨15, 11⟩) (meth := k15m11) (c := k15c11) (by decide +kernel) rfl rfl rfl (by decide +kernel)
set_option maxRecDepth 65536 in
theorem w_c55 : (Jvm.Cond.code ({ cls := "java/math/MutableBigInteger", name := "difference", desc := "(Ljava/math/MutableBigInteger;)I" } : Jvm.MethodName) jdk_2101_method_50_code (8 : Nat) (Option.some Jvm.ClassFile.FieldType.int)).before args0 about1 = true := code_word (m := ⟨15, 12⟩) (meth := k15m12) (c := k15c12) (by decide +kernel) rfl rfl rfl (by decide +kernel)
def codes1 : List Jvm.Cond := [Jvm.Cond.code x code maxLocals ret, Jvm.Cond.code ({ cls := "com/example/curves_to_bounds/curvestobounds/curve/Curve", name := "requirePairs", desc := "(II)V" } : Jvm.MethodName) prog_26_method_4_code (2 : Nat) (Option.none : Option Jvm.ClassFile.FieldType), Jvm.Cond.code ({ cls := "com/example/curves_to_bounds/curvestobounds/curve/Rational", name := "valueOf", desc := "(J)Lcom/example/curves_to_bounds/curvestobounds/curve/Rational;" } : Jvm.MethodName) prog_31_method_2_code (2 : Nat) (Option.some (Jvm.ClassFile.FieldType.object "com/example/curves_to_bounds/curvestobounds/curve/Rational")), Jvm.Cond.code ({ cls := "java/math/BigInteger", name := "valueOf", desc := "(J)Ljava/math/BigInteger;" } : Jvm.MethodName) jdk_2097_method_29_code (2 : Nat) (Option.some (Jvm.ClassFile.FieldType.object "java/math/BigInteger")), Jvm.Cond.code ({ cls := "com/example/curves_to_bounds/curvestobounds/curve/Rational", name := "<init>", desc := "(Ljava/math/BigInteger;Ljava/math/BigInteger;)V" } : Jvm.MethodName) prog_31_method_1_code (3 : Nat) (Option.none : Option Jvm.ClassFile.FieldType), Jvm.Cond.code ({ cls := "java/lang/Object", name := "<init>", desc := "()V" } : Jvm.MethodName) object_method_1_code (1 : Nat) (Option.none : Option Jvm.ClassFile.FieldType), Jvm.Cond.code ({ cls := "com/example/curves_to_bounds/curvestobounds/curve/Curve", name := "tooManyPairs", desc := "(Lcom/example/curves_to_bounds/curvestobounds/curve/Rational;Lcom/example/curves_to_bounds/curvestobounds/curve/Rational;)Z" } : Jvm.MethodName) prog_26_method_9_code (2 : Nat) (Option.some Jvm.ClassFile.FieldType.boolean), Jvm.Cond.code ({ cls := "com/example/curves_to_bounds/curvestobounds/curve/Rational", name := "multiply", desc := "(Lcom/example/curves_to_bounds/curvestobounds/curve/Rational;)Lcom/example/curves_to_bounds/curvestobounds/curve/Rational;" } : Jvm.MethodName) prog_31_method_13_code (2 : Nat) (Option.some (Jvm.ClassFile.FieldType.object "com/example/curves_to_bounds/curvestobounds/curve/Rational")), Jvm.Cond.code ({ cls := "java/math/BigInteger", name := "multiply", desc := "(Ljava/math/BigInteger;)Ljava/math/BigInteger;" } : Jvm.MethodName) jdk_2097_method_40_code (2 : Nat) (Option.some (Jvm.ClassFile.FieldType.object "java/math/BigInteger")), Jvm.Cond.code ({ cls := "java/math/BigInteger", name := "multiply", desc := "(Ljava/math/BigInteger;ZZI)Ljava/math/BigInteger;" } : Jvm.MethodName) jdk_2097_method_42_code (9 : Nat) (Option.some (Jvm.ClassFile.FieldType.object "java/math/BigInteger")), Jvm.Cond.code ({ cls := "java/math/BigInteger", name := "multiplyByInt", desc := "([III)Ljava/math/BigInteger;" } : Jvm.MethodName) jdk_2097_method_43_code (13 : Nat) (Option.some (Jvm.ClassFile.FieldType.object "java/math/BigInteger")), Jvm.Cond.code ({ cls := "java/lang/Integer", name := "bitCount", desc := "(I)I" } : Jvm.MethodName) jdk_33_method_49_code (1 : Nat) (Option.some Jvm.ClassFile.FieldType.int), Jvm.Cond.code ({ cls := "java/lang/Integer", name := "numberOfTrailingZeros", desc := "(I)I" } : Jvm.MethodName) jdk_33_method_48_code (2 : Nat) (Option.some Jvm.ClassFile.FieldType.int), Jvm.Cond.code ({ cls := "java/math/BigInteger", name := "shiftLeft", desc := "([II)[I" } : Jvm.MethodName) jdk_2097_method_102_code (10 : Nat) (Option.some (Jvm.ClassFile.FieldType.array Jvm.ClassFile.FieldType.int)), Jvm.Cond.code ({ cls := "java/math/BigInteger", name := "<init>", desc := "([II)V" } : Jvm.MethodName) jdk_2097_method_25_code (3 : Nat) (Option.none : Option Jvm.ClassFile.FieldType), Jvm.Cond.code ({ cls := "java/lang/Number", name := "<init>", desc := "()V" } : Jvm.MethodName) jdk_18_method_1_code (1 : Nat) (Option.none : Option Jvm.ClassFile.FieldType), Jvm.Cond.code ({ cls := "com/example/curves_to_bounds/curvestobounds/curve/Rational", name := "valueOf", desc := "(Ljava/math/BigInteger;Ljava/math/BigInteger;)Lcom/example/curves_to_bounds/curvestobounds/curve/Rational;" } : Jvm.MethodName) prog_31_method_4_code (5 : Nat) (Option.some (Jvm.ClassFile.FieldType.object "com/example/curves_to_bounds/curvestobounds/curve/Rational")), Jvm.Cond.code ({ cls := "java/util/Objects", name := "requireNonNull", desc := "(Ljava/lang/Object;Ljava/lang/String;)Ljava/lang/Object;" } : Jvm.MethodName) jdk_31_method_11_code (2 : Nat) (Option.some (Jvm.ClassFile.FieldType.object "java/lang/Object")), Jvm.Cond.code ({ cls := "java/math/BigInteger", name := "signum", desc := "()I" } : Jvm.MethodName) jdk_2097_method_81_code (1 : Nat) (Option.some Jvm.ClassFile.FieldType.int), Jvm.Cond.code ({ cls := "java/math/BigInteger", name := "gcd", desc := "(Ljava/math/BigInteger;)Ljava/math/BigInteger;" } : Jvm.MethodName) jdk_2097_method_73_code (5 : Nat) (Option.some (Jvm.ClassFile.FieldType.object "java/math/BigInteger")), Jvm.Cond.code ({ cls := "java/math/BigInteger", name := "abs", desc := "()Ljava/math/BigInteger;" } : Jvm.MethodName) jdk_2097_method_79_code (1 : Nat) (Option.some (Jvm.ClassFile.FieldType.object "java/math/BigInteger")), Jvm.Cond.code ({ cls := "java/math/BigInteger", name := "divide", desc := "(Ljava/math/BigInteger;)Ljava/math/BigInteger;" } : Jvm.MethodName) jdk_2097_method_61_code (2 : Nat) (Option.some (Jvm.ClassFile.FieldType.object "java/math/BigInteger")), Jvm.Cond.code ({ cls := "java/math/BigInteger", name := "divideKnuth", desc := "(Ljava/math/BigInteger;)Ljava/math/BigInteger;" } : Jvm.MethodName) jdk_2097_method_62_code (5 : Nat) (Option.some (Jvm.ClassFile.FieldType.object "java/math/BigInteger")), Jvm.Cond.code ({ cls := "java/math/MutableBigInteger", name := "<init>", desc := "()V" } : Jvm.MethodName) jdk_2101_method_1_code (1 : Nat) (Option.none : Option Jvm.ClassFile.FieldType), Jvm.Cond.code ({ cls := "java/math/MutableBigInteger", name := "<init>", desc := "([I)V" } : Jvm.MethodName) jdk_2101_method_3_code (2 : Nat) (Option.none : Option Jvm.ClassFile.FieldType), Jvm.Cond.code ({ cls := "java/math/MutableBigInteger", name := "divideKnuth", desc := "(Ljava/math/MutableBigInteger;Ljava/math/MutableBigInteger;Z)Ljava/math/MutableBigInteger;" } : Jvm.MethodName) jdk_2101_method_57_code (8 : Nat) (Option.some (Jvm.ClassFile.FieldType.object "java/math/MutableBigInteger")), Jvm.Cond.code ({ cls := "java/math/MutableBigInteger", name := "toBigInteger", desc := "(I)Ljava/math/BigInteger;" } : Jvm.MethodName) jdk_2101_method_9_code (2 : Nat) (Option.some (Jvm.ClassFile.FieldType.object "java/math/BigInteger")), Jvm.Cond.code ({ cls := "java/math/MutableBigInteger", name := "compare", desc := "(Ljava/math/MutableBigInteger;)I" } : Jvm.MethodName) jdk_2101_method_15_code (8 : Nat) (Option.some Jvm.ClassFile.FieldType.int), Jvm.Cond.code ({ cls := "java/math/MutableBigInteger", name := "getMagnitudeArray", desc := "()[I" } : Jvm.MethodName) jdk_2101_method_7_code (2 : Nat) (Option.some (Jvm.ClassFile.FieldType.array Jvm.ClassFile.FieldType.int)), Jvm.Cond.code ({ cls := "java/math/BigInteger", name := "<init>", desc := "(J)V" } : Jvm.MethodName) jdk_2097_method_30_code (4 : Nat) (Option.none : Option Jvm.ClassFile.FieldType), Jvm.Cond.code ({ cls := "com/example/curves_to_bounds/curvestobounds/curve/Rational", name := "compareTo", desc := "(Lcom/example/curves_to_bounds/curvestobounds/curve/Rational;)I" } : Jvm.MethodName) prog_31_method_20_code (2 : Nat) (Option.some Jvm.ClassFile.FieldType.int), Jvm.Cond.code ({ cls := "java/math/BigInteger", name := "compareTo", desc := "(Ljava/math/BigInteger;)I" } : Jvm.MethodName) jdk_2097_method_121_code (2 : Nat) (Option.some Jvm.ClassFile.FieldType.int), Jvm.Cond.code ({ cls := "java/math/MutableBigInteger", name := "<init>", desc := "(Ljava/math/BigInteger;)V" } : Jvm.MethodName) jdk_2101_method_4_code (2 : Nat) (Option.none : Option Jvm.ClassFile.FieldType), Jvm.Cond.code ({ cls := "java/util/Arrays", name := "copyOf", desc := "([II)[I" } : Jvm.MethodName) jdk_65_method_123_code (3 : Nat) (Option.some (Jvm.ClassFile.FieldType.array Jvm.ClassFile.FieldType.int)), Jvm.Cond.code ({ cls := "java/math/MutableBigInteger", name := "hybridGCD", desc := "(Ljava/math/MutableBigInteger;)Ljava/math/MutableBigInteger;" } : Jvm.MethodName) jdk_2101_method_72_code (5 : Nat) (Option.some (Jvm.ClassFile.FieldType.object "java/math/MutableBigInteger")), Jvm.Cond.code ({ cls := "java/lang/Math", name := "abs", desc := "(I)I" } : Jvm.MethodName) jdk_29_method_59_code (1 : Nat) (Option.some Jvm.ClassFile.FieldType.int), Jvm.Cond.code ({ cls := "java/math/MutableBigInteger", name := "binaryGCD", desc := "(Ljava/math/MutableBigInteger;)Ljava/math/MutableBigInteger;" } : Jvm.MethodName) jdk_2101_method_73_code (13 : Nat) (Option.some (Jvm.ClassFile.FieldType.object "java/math/MutableBigInteger")), Jvm.Cond.code ({ cls := "java/math/MutableBigInteger", name := "getLowestSetBit", desc := "()I" } : Jvm.MethodName) jdk_2101_method_18_code (3 : Nat) (Option.some Jvm.ClassFile.FieldType.int), Jvm.Cond.code ({ cls := "java/math/MutableBigInteger", name := "rightShift", desc := "(I)V" } : Jvm.MethodName) jdk_2101_method_35_code (5 : Nat) (Option.none : Option Jvm.ClassFile.FieldType), Jvm.Cond.code ({ cls := "java/math/BigInteger", name := "bitLengthForInt", desc := "(I)I" } : Jvm.MethodName) jdk_2097_method_74_code (1 : Nat) (Option.some Jvm.ClassFile.FieldType.int), Jvm.Cond.code ({ cls := "java/lang/Integer", name := "numberOfLeadingZeros", desc := "(I)I" } : Jvm.MethodName) jdk_33_method_47_code (2 : Nat) (Option.some Jvm.ClassFile.FieldType.int), Jvm.Cond.code ({ cls := "java/math/MutableBigInteger", name := "primitiveRightShift", desc := "(I)V" } : Jvm.MethodName) jdk_2101_method_41_code (7 : Nat) (Option.none : Option Jvm.ClassFile.FieldType), Jvm.Cond.code ({ cls := "java/math/MutableBigInteger", name := "binaryGcd", desc := "(II)I" } : Jvm.MethodName) jdk_2101_method_74_code (5 : Nat) (Option.some Jvm.ClassFile.FieldType.int), Jvm.Cond.code ({ cls := "java/math/MutableBigInteger", name := "clear", desc := "()V" } : Jvm.MethodName) jdk_2101_method_13_code (3 : Nat) (Option.none : Option Jvm.ClassFile.FieldType), Jvm.Cond.code ({ cls := "java/math/MutableBigInteger", name := "divideOneWord", desc := "(ILjava/math/MutableBigInteger;)I" } : Jvm.MethodName) jdk_2101_method_53_code (15 : Nat) (Option.some Jvm.ClassFile.FieldType.int), Jvm.Cond.code ({ cls := "java/math/BigInteger", name := "compareMagnitude", desc := "(Ljava/math/BigInteger;)I" } : Jvm.MethodName) jdk_2097_method_122_code (9 : Nat) (Option.some Jvm.ClassFile.FieldType.int), Jvm.Cond.code ({ cls := "java/util/Arrays", name := "copyOfRange", desc := "([III)[I" } : Jvm.MethodName) jdk_65_method_136_code (3 : Nat) (Option.some (Jvm.ClassFile.FieldType.array Jvm.ClassFile.FieldType.int)), Jvm.Cond.code ({ cls := "java/util/Arrays", name := "copyOfRangeInt", desc := "([III)[I" } : Jvm.MethodName) jdk_65_method_137_code (5 : Nat) (Option.some (Jvm.ClassFile.FieldType.array Jvm.ClassFile.FieldType.int)), Jvm.Cond.code ({ cls := "java/util/Arrays", name := "checkLength", desc := "(II)V" } : Jvm.MethodName) jdk_65_method_131_code (2 : Nat) (Option.none : Option Jvm.ClassFile.FieldType), Jvm.Cond.code ({ cls := "java/lang/Math", name := "min", desc := "(II)I" } : Jvm.MethodName) jdk_29_method_69_code (2 : Nat) (Option.some Jvm.ClassFile.FieldType.int), Jvm.Cond.code ({ cls := "java/util/Objects", name := "checkFromToIndex", desc := "(III)I" } : Jvm.MethodName) jdk_31_method_18_code (3 : Nat) (Option.some Jvm.ClassFile.FieldType.int), Jvm.Cond.code ({ cls := "jdk/internal/util/Preconditions", name := "checkFromToIndex", desc := "(IIILjava/util/function/BiFunction;)I" } : Jvm.MethodName) jdk_41_method_12_code (4 : Nat) (Option.some Jvm.ClassFile.FieldType.int), Jvm.Cond.code ({ cls := "java/math/BigInteger", name := "shiftLeftImplWorker", desc := "([I[IIII)V" } : Jvm.MethodName) jdk_2097_method_103_code (7 : Nat) (Option.none : Option Jvm.ClassFile.FieldType), Jvm.Cond.code ({ cls := "java/math/MutableBigInteger", name := "normalize", desc := "()V" } : Jvm.MethodName) jdk_2101_method_21_code (4 : Nat) (Option.none : Option Jvm.ClassFile.FieldType), Jvm.Cond.code ({ cls := "java/math/MutableBigInteger", name := "primitiveLeftShift", desc := "(I)V" } : Jvm.MethodName) jdk_2101_method_42_code (8 : Nat) (Option.none : Option Jvm.ClassFile.FieldType), Jvm.Cond.code ({ cls := "java/math/MutableBigInteger", name := "difference", desc := "(Ljava/math/MutableBigInteger;)I" } : Jvm.MethodName) jdk_2101_method_50_code (8 : Nat) (Option.some Jvm.ClassFile.FieldType.int)]
set_option maxRecDepth 65536 in
theorem codes_eq : words1.filter isCode = codes1 := rfl
theorem w_codes : ∀ c ∈ words1.filter isCode, c.before args0 about1 = true := by
  rw [codes_eq]
  intro c hc
  simp only [codes1, List.mem_cons, List.not_mem_nil, or_false] at hc
  rcases hc with rfl | rfl | rfl | rfl | rfl | rfl | rfl | rfl | rfl | rfl | rfl | rfl | rfl | rfl | rfl | rfl | rfl | rfl | rfl | rfl | rfl | rfl | rfl | rfl | rfl | rfl | rfl | rfl | rfl | rfl | rfl | rfl | rfl | rfl | rfl | rfl | rfl | rfl | rfl | rfl | rfl | rfl | rfl | rfl | rfl | rfl | rfl | rfl | rfl | rfl | rfl | rfl | rfl | rfl | rfl | rfl
  · exact w_c0
  · exact w_c1
  · exact w_c2
  · exact w_c3
  · exact w_c4
  · exact w_c5
  · exact w_c6
  · exact w_c7
  · exact w_c8
  · exact w_c9
  · exact w_c10
  · exact w_c11
  · exact w_c12
  · exact w_c13
  · exact w_c14
  · exact w_c15
  · exact w_c16
  · exact w_c17
  · exact w_c18
  · exact w_c19
  · exact w_c20
  · exact w_c21
  · exact w_c22
  · exact w_c23
  · exact w_c24
  · exact w_c25
  · exact w_c26
  · exact w_c27
  · exact w_c28
  · exact w_c29
  · exact w_c30
  · exact w_c31
  · exact w_c32
  · exact w_c33
  · exact w_c34
  · exact w_c35
  · exact w_c36
  · exact w_c37
  · exact w_c38
  · exact w_c39
  · exact w_c40
  · exact w_c41
  · exact w_c42
  · exact w_c43
  · exact w_c44
  · exact w_c45
  · exact w_c46
  · exact w_c47
  · exact w_c48
  · exact w_c49
  · exact w_c50
  · exact w_c51
  · exact w_c52
  · exact w_c53
  · exact w_c54
  · exact w_c55
set_option maxRecDepth 65536 in
theorem w_t1 : (words1.take 24).all (fun c => isCode c || c.before args0 about1) = true := by decide +kernel
set_option maxRecDepth 65536 in
theorem w_t2 : ((words1.drop 24).take 24).all (fun c => isCode c || c.before args0 about1) = true := by decide +kernel
set_option maxRecDepth 65536 in
theorem w_t3 : (((words1.drop 24).drop 24).take 24).all (fun c => isCode c || c.before args0 about1) = true := by decide +kernel
set_option maxRecDepth 65536 in
theorem w_t4 : ((((words1.drop 24).drop 24).drop 24).take 24).all (fun c => isCode c || c.before args0 about1) = true := by decide +kernel
set_option maxRecDepth 65536 in
theorem w_t5 : (((((words1.drop 24).drop 24).drop 24).drop 24).take 24).all (fun c => isCode c || c.before args0 about1) = true := by decide +kernel
set_option maxRecDepth 65536 in
theorem w_t6 : ((((((words1.drop 24).drop 24).drop 24).drop 24).drop 24).take 24).all (fun c => isCode c || c.before args0 about1) = true := by decide +kernel
set_option maxRecDepth 65536 in
theorem w_t7 : (((((((words1.drop 24).drop 24).drop 24).drop 24).drop 24).drop 24).take 24).all (fun c => isCode c || c.before args0 about1) = true := by decide +kernel
set_option maxRecDepth 65536 in
theorem w_t8 : ((((((((words1.drop 24).drop 24).drop 24).drop 24).drop 24).drop 24).drop 24).take 24).all (fun c => isCode c || c.before args0 about1) = true := by decide +kernel
set_option maxRecDepth 65536 in
theorem w_t9 : (((((((((words1.drop 24).drop 24).drop 24).drop 24).drop 24).drop 24).drop 24).drop 24).take 24).all (fun c => isCode c || c.before args0 about1) = true := by decide +kernel
set_option maxRecDepth 65536 in
theorem w_t10 : ((((((((((words1.drop 24).drop 24).drop 24).drop 24).drop 24).drop 24).drop 24).drop 24).drop 24).take 24).all (fun c => isCode c || c.before args0 about1) = true := by decide +kernel
set_option maxRecDepth 65536 in
theorem w_t11 : (((((((((((words1.drop 24).drop 24).drop 24).drop 24).drop 24).drop 24).drop 24).drop 24).drop 24).drop 24).take 24).all (fun c => isCode c || c.before args0 about1) = true := by decide +kernel
set_option maxRecDepth 65536 in
theorem w_t12 : ((((((((((((words1.drop 24).drop 24).drop 24).drop 24).drop 24).drop 24).drop 24).drop 24).drop 24).drop 24).drop 24).take 24).all (fun c => isCode c || c.before args0 about1) = true := by decide +kernel
set_option maxRecDepth 65536 in
theorem w_t13 : ((((((((((((words1.drop 24).drop 24).drop 24).drop 24).drop 24).drop 24).drop 24).drop 24).drop 24).drop 24).drop 24).drop 24).all (fun c => isCode c || c.before args0 about1) = true := by decide +kernel
theorem w_tables : (allAtoms (Jvm.Cond.code x code maxLocals ret :: tables_1)).before args0 about1 = true := by
  rw [allAtoms_all]
  show words1.all (fun c => c.before args0 about1) = true
  refine all_split ?_ w_codes
  rw [← List.take_append_drop 24 words1, List.all_append, w_t1, ← List.take_append_drop 24 (words1.drop 24), List.all_append, w_t2, ← List.take_append_drop 24 ((words1.drop 24).drop 24), List.all_append, w_t3, ← List.take_append_drop 24 (((words1.drop 24).drop 24).drop 24), List.all_append, w_t4, ← List.take_append_drop 24 ((((words1.drop 24).drop 24).drop 24).drop 24), List.all_append, w_t5, ← List.take_append_drop 24 (((((words1.drop 24).drop 24).drop 24).drop 24).drop 24), List.all_append, w_t6, ← List.take_append_drop 24 ((((((words1.drop 24).drop 24).drop 24).drop 24).drop 24).drop 24), List.all_append, w_t7, ← List.take_append_drop 24 (((((((words1.drop 24).drop 24).drop 24).drop 24).drop 24).drop 24).drop 24), List.all_append, w_t8, ← List.take_append_drop 24 ((((((((words1.drop 24).drop 24).drop 24).drop 24).drop 24).drop 24).drop 24).drop 24), List.all_append, w_t9, ← List.take_append_drop 24 (((((((((words1.drop 24).drop 24).drop 24).drop 24).drop 24).drop 24).drop 24).drop 24).drop 24), List.all_append, w_t10, ← List.take_append_drop 24 ((((((((((words1.drop 24).drop 24).drop 24).drop 24).drop 24).drop 24).drop 24).drop 24).drop 24).drop 24), List.all_append, w_t11, ← List.take_append_drop 24 (((((((((((words1.drop 24).drop 24).drop 24).drop 24).drop 24).drop 24).drop 24).drop 24).drop 24).drop 24).drop 24), List.all_append, w_t12, w_t13]
  rfl
set_option maxRecDepth 65536 in
theorem w_rest : rest_1_c.before args0 about1 = true := by decide +kernel
set_option maxRecDepth 65536 in
theorem w_case : (Jvm.Cond.and given_1 narrow_1).before args0 about1 = true := by decide +kernel
theorem w_applies : (headSpec (Jvm.Cond.code x code maxLocals ret :: tables_1) room_1).applies x e0.platform about1 = true :=
  (Spec.applies_iff w_frames).mpr ⟨w_running, w_runnable, w_alone, w_named, w_hears, w_ripe, w_room, w_tables⟩
theorem atStart : AtStart classFile x code maxLocals ret World_1 tables_1 room_1 Calls_1 rest_1 Pre_1 launch0 p0 e0 about1 theMethod args0 below0 :=
  ⟨lists_1, trivial, launch0.admits_env _ _ _, launch0.least_env, fairChoices_fair.cas, fairChoices_fair.clock, w_frames, w_args, w_heap, w_applies, trivial, w_rest, w_case⟩
end start1
theorem witness_1 : WitnessClaimed_1 := ⟨start1.p0, start1.e0, start1.about1, start1.theMethod, start1.args0, start1.below0, start1.atStart⟩
end Jvm.Pilot.@@N@@
