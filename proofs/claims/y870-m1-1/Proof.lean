import JvmDerived
import JvmDerived.Pilot.@@N@@Statement
import JvmDerived.Pilot.@@N@@Code
set_option linter.unusedVariables false
set_option linter.unusedSimpArgs false
namespace Jvm.RoadKit
open Sem ClassFile Op Lib Jvm.Stand Jvm.Free Jvm.LawKit
section OwnNew
variable {p : Program} {l : Launch} {e : Env} {R : Room} {s : State} {m : MethodId} {args : Array Value} {below : List Frame} {meth : Method} {c : Code} {T : State} {locs : List Loc} {cells slots : Nat} {h : Heap}
/-- from S the run comes to an end of which Q holds -/
def OwnGo (p : Program) (e : Env) (below : List Frame) (S : State) (Q : Outcome → State → Prop) : Prop :=
  ∃ s₂ o, Steps p.tables e below S s₂ ∧ s₂.status = .running ∧ Ended s₂ below o ∧ Q o s₂
theorem own_go {S : State} {Q : Outcome → State → Prop} (k : OwnGo p e below S Q) : ∃ s₂ o, Steps p.tables e below S s₂ ∧ s₂.status = .running ∧ Ended s₂ below o ∧ Q o s₂ := k
theorem own_back {S S' : State} {Q : Outcome → State → Prop} (h : ∀ t, Steps p.tables e below S' t → Steps p.tables e below S t) (k : OwnGo p e below S' Q) : OwnGo p e below S Q := by
  obtain ⟨s2, o, h1, h2⟩ := k
  exact ⟨s2, o, h _ h1, h2⟩
theorem own_seq {S S' : State} {Q : Outcome → State → Prop} (h : Steps p.tables e below S S') (k : OwnGo p e below S' Q) : OwnGo p e below S Q := own_back (fun _ ht => h.trans ht) k
abbrev OwnEnd (s : State) (Qf : Option Value → Heap → List Loc → Prop) (C S : Nat) : Outcome → State → Prop := fun o U' => ∃ v L, o = .returned v ∧ Qf v U'.heap L ∧ FrameEnd s o U' L C S
theorem own_end (X : Stand p l e R s m args below meth c T locs cells slots) (hlocks : meth.locks = false) {v : Option Value} (hv : meth.sig.returnType = none → v = none) {S : State} {Qf : Option Value → Heap → List Loc → Prop} {C Sl : Nat} (eT : T.heap = h) (hc : cells ≤ C) (hs : slots ≤ Sl) (hq : Qf v h locs)
    (step : ∀ fs : List Frame, (∀ (f : JFrame) (acts : List Action), f.method = m → f.locked = none → f.entered = [] → (doReturn e (T.setTop f) acts v).1 = T.setFrames fs) → Steps p.tables e below S (T.setFrames fs)) : OwnGo p e below S (OwnEnd s Qf C Sl) := by
  obtain ⟨fs, hr, hrun, hended, hW, hsame⟩ := X.leave (v := v) hv hlocks
  refine ⟨_, _, step fs hr, hrun, hended, v, locs, rfl, ?_, ⟨_, rfl⟩, hW, hsame.mono hc hs⟩
  show Qf v T.heap locs
  rw [eT]; exact hq
theorem own_hat {T : State} {h : Heap} {a : Addr} {c : Cell} (e : T.heap = h) (q : h[a]? = some c) : T.heap[a]? = some c := by rw [e]; exact q
theorem own_hle {T : State} {h : Heap} {k : Nat} (e : T.heap = h) (q : k ≤ h.size) : k ≤ T.heap.size := by rw [e]; exact q
theorem own_backN {Z : State} {a0 : Array Value} {y : MethodName} {bytes : ByteArray} {maxL : Nat} {ret : Option FieldType} {rm : Room} {len W : Nat} {as' : Array Value} {Q : Option Value → Heap → List Loc → Prop}
    (hM : MetFree l y (head1 [Cond.code y bytes maxL ret] rm) (fun a U => a = as' ∧ Z.Warmed39 U.vm ∧ U.heap = h) (fun _ _ _ _ _ => True) (fun _ U o U' => OwnEnd U Q rm.cells rm.slots o U'))
    (hZ : Z.Warmed39 s.vm) (wc : (Cond.code y bytes maxL ret).before a0 Z = true) (wz : (Cond.initialized y.cls).before a0 Z = true) (hf : rm.frames + 1 ≤ R.frames) (hl : W + (maxL + 11) + rm.locals ≤ R.locals) :
    Back l R p e below s args y len W (fun A a => a = as' ∧ A.U.heap = h ∧ A.cells + rm.cells ≤ R.cells ∧ A.slots + rm.slots ≤ R.slots)
      (fun A _ v B => ∃ L, Q v B.U.heap L ∧ B.locs = A.locs ++ L ∧ B.cells = A.cells + rm.cells ∧ B.slots = A.slots + rm.slots) := backOf (Q := Q) hM hZ wc wz hf hl
theorem own_retN (X : Stand p l e R s m args below meth c T locs cells slots) (hx : p.tables.exec = Jvm.exec) (hlocks : meth.locks = false) {pc : Nat} {Ls : Array Slot} {z : Int32} {t : FieldType} {rest : List Value} (hret : meth.sig.returnType = some t) (ht : t = .boolean ∨ t = .byte ∨ t = .char ∨ t = .short) (hn : nar t z = z)
    (hd : decode c.code pc = .ok (.ireturn, 1)) {Qf : Option Value → Heap → List Loc → Prop} {C Sl : Nat} (eT : T.heap = h) (hc : cells ≤ C) (hs : slots ≤ Sl) (hq : Qf (some (.int z)) h locs) : OwnGo p e below (T.setTop (mkF m pc Ls (.int z :: rest))) (OwnEnd s Qf C Sl) :=
  own_end X hlocks (fun h => by rw [hret] at h; cases h) eT hc hs hq fun fs hr => retN X hx hret ht hd (by rw [hn]; exact hr)
theorem own_retI (X : Stand p l e R s m args below meth c T locs cells slots) (hx : p.tables.exec = Jvm.exec) (hlocks : meth.locks = false) {pc : Nat} {Ls : Array Slot} {z : Int32} {rest : List Value} (hret : meth.sig.returnType = some .int)
    (hd : decode c.code pc = .ok (.ireturn, 1)) {Qf : Option Value → Heap → List Loc → Prop} {C Sl : Nat} (eT : T.heap = h) (hc : cells ≤ C) (hs : slots ≤ Sl) (hq : Qf (some (.int z)) h locs) : OwnGo p e below (T.setTop (mkF m pc Ls (.int z :: rest))) (OwnEnd s Qf C Sl) :=
  own_end X hlocks (fun h => by rw [hret] at h; cases h) eT hc hs hq fun fs hr => retOut X hx hret rfl (Or.inl ⟨rfl, Or.inl rfl, z, rfl⟩) hd hr
theorem own_retJ (X : Stand p l e R s m args below meth c T locs cells slots) (hx : p.tables.exec = Jvm.exec) (hlocks : meth.locks = false) {pc : Nat} {Ls : Array Slot} {z : Int64} {rest : List Value} (hret : meth.sig.returnType = some .long)
    (hd : decode c.code pc = .ok (.lreturn, 1)) {Qf : Option Value → Heap → List Loc → Prop} {C Sl : Nat} (eT : T.heap = h) (hc : cells ≤ C) (hs : slots ≤ Sl) (hq : Qf (some (.long z)) h locs) : OwnGo p e below (T.setTop (mkF m pc Ls (.long z :: rest))) (OwnEnd s Qf C Sl) :=
  own_end X hlocks (fun h => by rw [hret] at h; cases h) eT hc hs hq fun fs hr => retOut X hx hret rfl (Or.inr (Or.inl ⟨rfl, rfl, z, rfl⟩)) hd hr
theorem own_narA {t : FieldType} {w : Value} (h : w.isRef = true) : narrow t w = w := by
  rcases ref_cases h with rfl | ⟨a, rfl⟩ <;> cases t <;> rfl
theorem own_retA (X : Stand p l e R s m args below meth c T locs cells slots) (hx : p.tables.exec = Jvm.exec) (hlocks : meth.locks = false) {pc : Nat} {Ls : Array Slot} {w : Value} {t : FieldType} {rest : List Value} (hret : meth.sig.returnType = some t) (ht : t.isReference = true) (hw : w.isRef = true)
    (hd : decode c.code pc = .ok (.areturn, 1)) {Qf : Option Value → Heap → List Loc → Prop} {C Sl : Nat} (eT : T.heap = h) (hc : cells ≤ C) (hs : slots ≤ Sl) (hq : Qf (some w) h locs) : OwnGo p e below (T.setTop (mkF m pc Ls (w :: rest))) (OwnEnd s Qf C Sl) :=
  own_end X hlocks (fun h => by rw [hret] at h; cases h) eT hc hs hq fun fs hr => retOut X hx hret (own_narA hw) (Or.inr (Or.inr (Or.inr (Or.inr ⟨rfl, ht, hw⟩)))) hd hr
theorem own_retV (X : Stand p l e R s m args below meth c T locs cells slots) (hx : p.tables.exec = Jvm.exec) (hlocks : meth.locks = false) {pc : Nat} {Ls : Array Slot} (hret : meth.sig.returnType = none)
    (hd : decode c.code pc = .ok (.return_, 1)) {Qf : Option Value → Heap → List Loc → Prop} {C Sl : Nat} (eT : T.heap = h) (hc : cells ≤ C) (hs : slots ≤ Sl) (hq : Qf none h locs) : OwnGo p e below (T.setTop (mkF m pc Ls [])) (OwnEnd s Qf C Sl) :=
  own_end X hlocks (fun _ => rfl) eT hc hs hq fun fs hr => X.returnOut hx hret hd hr
end OwnNew
section OwnTerms
variable {args : Array Value} {first s : State} {o : Option Outcome} {idx : List Nat} {t u : Term}
theorem own_eqint {k : Int32} (h : (Cond.eq t (.int k)).value args first o s idx = some true) : t.eval args first o idx s = some (.int k) := by
  cases ha : t.eval args first o idx s with
  | none => simp [Cond.value, ha] at h
  | some x =>
    have hb : (Term.int k).eval args first o idx s = some (.int k) := Term.int_eval k
    cases x <;> simp [Cond.value, ha, hb, Value.isRef] at h ⊢
    exact h
theorem own_eqref {w : Addr} (hu : u.eval args first o idx s = some (.ref w)) (h : (Cond.eq t u).value args first o s idx = some true) : t.eval args first o idx s = some (.ref w) := by
  cases ha : t.eval args first o idx s with
  | none => simp [Cond.value, ha] at h
  | some x =>
    cases x <;> simp [Cond.value, ha, hu, Value.isRef] at h ⊢
    exact h
end OwnTerms
section OwnArr
variable {s : State} {args : Array Value} {t u : Term} {a : Addr} {c : Cell} {ty : FieldType}
theorem own_nat32 {n : Nat} (h : n < 2 ^ 31) : n.toInt32.toNatClampNeg = n := by
  have e : n.toInt32.toInt = n := Int32.toInt_ofNat_of_lt h
  have := nat_of (j := n.toInt32) (by rw [Int32.lt_iff_toInt_lt, e]; have z : (0 : Int32).toInt = 0 := rfl; omega)
  omega
theorem own_len {n : Int32} (A : Arr s s.heap a c ty) (et : t.eval args s none [] s = some (.ref a)) (h : (Cond.eq (.length t) (.int n)).value args s none s [] = some true) {k : Nat} (hk : n.toNatClampNeg = k := by rfl) : c.slots.size = k := by
  have e := own_eqint h
  have ha : s.arrayAt? a = some c := IntBox.arrayAt_of A.1 A.2.1 A.2.2
  by_cases hl : c.slots.size < 2 ^ 31
  · rw [len_f et ha hl] at e
    have e2 : c.slots.size.toInt32 = n := by injection e with e; injection e
    rw [← hk, ← e2]
    exact (own_nat32 hl).symm
  · simp [Term.eval, et, ha, hl] at e
theorem own_elem {j k : Int32} (A : Arr s s.heap a c ty) (et : t.eval args s none [] s = some (.ref a)) (h : (Cond.eq (.elem t (.int j)) (.int k)).value args s none s [] = some true) (hj : ¬ j < 0) : c.slots[j.toNatClampNeg]? = some (.int k) := by
  have e := own_eqint h
  have ha : s.arrayAt? a = some c := IntBox.arrayAt_of A.1 A.2.1 A.2.2
  rw [elem_f et (Term.int_eval j) ha hj] at e
  exact e
theorem own_elemR {j : Int32} {w : Addr} (A : Arr s s.heap a c ty) (et : t.eval args s none [] s = some (.ref a)) (hu : u.eval args s none [] s = some (.ref w)) (h : (Cond.eq (.elem t (.int j)) u).value args s none s [] = some true) (hj : ¬ j < 0) : c.slots[j.toNatClampNeg]? = some (.ref w) := by
  have e := own_eqref hu h
  have ha : s.arrayAt? a = some c := IntBox.arrayAt_of A.1 A.2.1 A.2.2
  rw [elem_f et (Term.int_eval j) ha hj] at e
  exact e
end OwnArr
section OwnMore
variable {Z : State} {h h' : Heap}
theorem own_arr_ne {a b : Addr} {c d : Cell} {t u : FieldType} (A : Arr Z h a c t) (B : Arr Z h b d u) (q : t ≠ u) : a ≠ b := fun e => by
  subst e
  cases A.1.symm.trans B.1
  obtain ⟨-, k1, h1, cp1, h2⟩ := A.2.1
  obtain ⟨-, k2, h3, cp2, h4⟩ := B.2.1
  cases h1.symm.trans h3
  rw [h2] at h4
  injection h4 with _ h5
  exact q h5
theorem own_arv_ne {a b : Addr} {k k' : ClassId} {t u : FieldType} {z z' : Int32} {vs vs' : List Value} {d d' : Value} (A : Arv Z h a k t z vs d) (B : Arv Z h b k' u z' vs' d') (q : t ≠ u) : a ≠ b := by
  obtain ⟨c, A, -⟩ := A
  obtain ⟨c', B, -⟩ := B
  exact own_arr_ne A B q
theorem own_ext (K : Keep h h' []) : Ext h h' := ⟨K.1, fun x c q => K.2.1 x c q nin0⟩
theorem own_fitA {t : FieldType} {w : Value} (hw : w.isRef = true) (ht : t.isReference = true := by rfl) : fits t w = true := by
  rcases ref_cases hw with rfl | ⟨a, rfl⟩ <;> cases t <;> first | rfl | cases ht
end OwnMore
section OwnRem
variable {p : Program} {l : Launch} {e : Env} {R : Room} {s : State} {m : MethodId} {args : Array Value} {below : List Frame} {meth : Method} {c : Code} {T : State} {locs : List Loc} {cells slots : Nat}
theorem own_lrem {g : JFrame} {target : State} (X : Stand p l e R s m args below meth c T locs cells slots) (hx : p.tables.exec = Jvm.exec) (hg : g.method = m) {x y : Int64} {rest : List Value} (hd : decode c.code g.pc = .ok (.lrem, 1)) (hs : g.stack = .long y :: .long x :: rest) (hy : y ≠ 0)
    (hr : Steps p.tables e below (T.setTop { g with pc := g.pc + 1, stack := .long (x % y) :: rest }) target) : Steps p.tables e below (T.setTop g) target :=
  XS.lrem X.here hx hg hd hs hy (by rw [lrem_mod]; exact hr)
end OwnRem
end Jvm.RoadKit
namespace Jvm.RoadKit
open Sem ClassFile Op Lib Bundle Jvm.Stand Jvm.Free Jvm.LawKit Jvm.Free.SB Jvm.Free.SBG
section OwnWide
variable {p : Program} {l : Launch} {e : Env} {R : Room} {s : State} {m : MethodId} {args : Array Value} {below : List Frame} {meth : Method} {c : Code} {T : State} {locs : List Loc} {cells slots : Nat} {h h0 : Heap} {Z : State} {a0 : Array Value} {EL : List (String × Nat)} {vm0 : Vm} {k0 : Nat}
abbrev OwnEndW (Z : State) (EL : List (String × Nat)) (s : State) (Qf : Option Value → Heap → List Loc → Prop) (C S : Nat) : Outcome → State → Prop := fun o U' => ∃ v L, o = .returned v ∧ Qf v U'.heap L ∧ CHr Z EL s.vm s.heap U'.vm U'.heap ∧ ReturnedEndW s o U' L C S
theorem own_endW (X : Stand p l e R (s.setVm vm0) m args below meth c T locs cells slots) (hlocks : meth.locks = false) {v : Option Value} (hv : meth.sig.returnType = none → v = none) {S : State} {Qf : Option Value → Heap → List Loc → Prop} {C Sl : Nat}
    (hS : s.Since vm0 k0) (hk : k0 ≤ h.size) (hZ : Z.Warmed39 (s.setVm vm0).vm) (hEL : EW Z a0 EL) (CR : CHr Z EL s.vm s.heap vm0 h) (eT : T.heap = h) (hc : cells ≤ C) (hs : slots ≤ Sl) (hq : Qf v h locs)
    (step : ∀ fs : List Frame, (∀ (f : JFrame) (acts : List Action), f.method = m → f.locked = none → f.entered = [] → (doReturn e (T.setTop f) acts v).1 = T.setFrames fs) → Steps p.tables e below S (T.setFrames fs)) : OwnGo p e below S (OwnEndW Z EL s Qf C Sl) := by
  obtain ⟨fs, hr, hrun, hended, hw1, hw2, hw3, hw4⟩ := X.leaveW (v := v) hS (by rw [eT]; exact hk) hv hlocks
  refine ⟨_, _, step fs hr, hrun, hended, v, locs, rfl, ?_, ?_, hw1, hw2, hw3, hw4.mono hc hs⟩
  · show Qf v T.heap locs
    rw [eT]; exact hq
  · show CHr Z EL s.vm s.heap T.vm T.heap
    rw [eT]; exact CR.trans (CHv.at X hZ hEL CR.1)
theorem own_retNW (X : Stand p l e R (s.setVm vm0) m args below meth c T locs cells slots) (hx : p.tables.exec = Jvm.exec) (hlocks : meth.locks = false) {pc : Nat} {Ls : Array Slot} {z : Int32} {t : FieldType} {rest : List Value} (hret : meth.sig.returnType = some t) (ht : t = .boolean ∨ t = .byte ∨ t = .char ∨ t = .short) (hn : nar t z = z)
    (hS : s.Since vm0 k0) (hk : k0 ≤ h.size) (hZ : Z.Warmed39 (s.setVm vm0).vm) (hEL : EW Z a0 EL) (CR : CHr Z EL s.vm s.heap vm0 h)
    (hd : decode c.code pc = .ok (.ireturn, 1)) {Qf : Option Value → Heap → List Loc → Prop} {C Sl : Nat} (eT : T.heap = h) (hc : cells ≤ C) (hs : slots ≤ Sl) (hq : Qf (some (.int z)) h locs) : OwnGo p e below (T.setTop (mkF m pc Ls (.int z :: rest))) (OwnEndW Z EL s Qf C Sl) :=
  own_endW X hlocks (fun h => by rw [hret] at h; cases h) hS hk hZ hEL CR eT hc hs hq fun fs hr => retN X hx hret ht hd (by rw [hn]; exact hr)
theorem own_retIW (X : Stand p l e R (s.setVm vm0) m args below meth c T locs cells slots) (hx : p.tables.exec = Jvm.exec) (hlocks : meth.locks = false) {pc : Nat} {Ls : Array Slot} {z : Int32} {rest : List Value} (hret : meth.sig.returnType = some .int)
    (hS : s.Since vm0 k0) (hk : k0 ≤ h.size) (hZ : Z.Warmed39 (s.setVm vm0).vm) (hEL : EW Z a0 EL) (CR : CHr Z EL s.vm s.heap vm0 h)
    (hd : decode c.code pc = .ok (.ireturn, 1)) {Qf : Option Value → Heap → List Loc → Prop} {C Sl : Nat} (eT : T.heap = h) (hc : cells ≤ C) (hs : slots ≤ Sl) (hq : Qf (some (.int z)) h locs) : OwnGo p e below (T.setTop (mkF m pc Ls (.int z :: rest))) (OwnEndW Z EL s Qf C Sl) :=
  own_endW X hlocks (fun h => by rw [hret] at h; cases h) hS hk hZ hEL CR eT hc hs hq fun fs hr => retOut X hx hret rfl (Or.inl ⟨rfl, Or.inl rfl, z, rfl⟩) hd hr
theorem own_retJW (X : Stand p l e R (s.setVm vm0) m args below meth c T locs cells slots) (hx : p.tables.exec = Jvm.exec) (hlocks : meth.locks = false) {pc : Nat} {Ls : Array Slot} {z : Int64} {rest : List Value} (hret : meth.sig.returnType = some .long)
    (hS : s.Since vm0 k0) (hk : k0 ≤ h.size) (hZ : Z.Warmed39 (s.setVm vm0).vm) (hEL : EW Z a0 EL) (CR : CHr Z EL s.vm s.heap vm0 h)
    (hd : decode c.code pc = .ok (.lreturn, 1)) {Qf : Option Value → Heap → List Loc → Prop} {C Sl : Nat} (eT : T.heap = h) (hc : cells ≤ C) (hs : slots ≤ Sl) (hq : Qf (some (.long z)) h locs) : OwnGo p e below (T.setTop (mkF m pc Ls (.long z :: rest))) (OwnEndW Z EL s Qf C Sl) :=
  own_endW X hlocks (fun h => by rw [hret] at h; cases h) hS hk hZ hEL CR eT hc hs hq fun fs hr => retOut X hx hret rfl (Or.inr (Or.inl ⟨rfl, rfl, z, rfl⟩)) hd hr
theorem own_retAW (X : Stand p l e R (s.setVm vm0) m args below meth c T locs cells slots) (hx : p.tables.exec = Jvm.exec) (hlocks : meth.locks = false) {pc : Nat} {Ls : Array Slot} {w : Value} {t : FieldType} {rest : List Value} (hret : meth.sig.returnType = some t) (ht : t.isReference = true) (hw : w.isRef = true)
    (hS : s.Since vm0 k0) (hk : k0 ≤ h.size) (hZ : Z.Warmed39 (s.setVm vm0).vm) (hEL : EW Z a0 EL) (CR : CHr Z EL s.vm s.heap vm0 h)
    (hd : decode c.code pc = .ok (.areturn, 1)) {Qf : Option Value → Heap → List Loc → Prop} {C Sl : Nat} (eT : T.heap = h) (hc : cells ≤ C) (hs : slots ≤ Sl) (hq : Qf (some w) h locs) : OwnGo p e below (T.setTop (mkF m pc Ls (w :: rest))) (OwnEndW Z EL s Qf C Sl) :=
  own_endW X hlocks (fun h => by rw [hret] at h; cases h) hS hk hZ hEL CR eT hc hs hq fun fs hr => retOut X hx hret (own_narA hw) (Or.inr (Or.inr (Or.inr (Or.inr ⟨rfl, ht, hw⟩)))) hd hr
theorem own_retVW (X : Stand p l e R (s.setVm vm0) m args below meth c T locs cells slots) (hx : p.tables.exec = Jvm.exec) (hlocks : meth.locks = false) {pc : Nat} {Ls : Array Slot} (hret : meth.sig.returnType = none)
    (hS : s.Since vm0 k0) (hk : k0 ≤ h.size) (hZ : Z.Warmed39 (s.setVm vm0).vm) (hEL : EW Z a0 EL) (CR : CHr Z EL s.vm s.heap vm0 h)
    (hd : decode c.code pc = .ok (.return_, 1)) {Qf : Option Value → Heap → List Loc → Prop} {C Sl : Nat} (eT : T.heap = h) (hc : cells ≤ C) (hs : slots ≤ Sl) (hq : Qf none h locs) : OwnGo p e below (T.setTop (mkF m pc Ls [])) (OwnEndW Z EL s Qf C Sl) :=
  own_endW X hlocks (fun _ => rfl) hS hk hZ hEL CR eT hc hs hq fun fs hr => X.returnOut hx hret hd hr
/-- a callee that may intern and keeps the invariant; the cells SL are no booked Strings' -/
theorem own_backH {y : MethodName} {bytes : ByteArray} {maxL : Nat} {ret : Option FieldType} {rm : Room} {len W : Nat} {as' : Array Value} {Q : Option Value → Heap → List Loc → Prop} {SL : List Addr}
    (hM : MetFree l y (head1 [Cond.code y bytes maxL ret] rm) (fun a U => a = as' ∧ Z.Warmed39 U.vm ∧ U.heap = h ∧ CHv Z EL U.vm h ∧ ∀ x ∈ SL, Safe Z EL U.vm h x) (fun _ _ _ _ _ => True) (fun _ U o U' => OwnEndW Z EL U Q rm.cells rm.slots o U'))
    (hZ : Z.Warmed39 (s.setVm vm0).vm) (wc : (Cond.code y bytes maxL ret).before a0 Z = true) (wz : (Cond.initialized y.cls).before a0 Z = true) (hf : rm.frames + 1 ≤ R.frames) (hl : W + (maxL + 11) + rm.locals ≤ R.locals) (hEL : EW Z a0 EL) (H : CHv Z EL vm0 h) (hsf : ∀ x ∈ SL, Safe Z EL vm0 h x) (hlt : ∀ x ∈ SL, x < h.size) :
    BackS l R p e below (s.setVm vm0) args y len W (fun A a => a = as' ∧ A.U.heap = h ∧ A.cells + rm.cells ≤ R.cells ∧ A.slots + rm.slots ≤ R.slots)
      (fun A _ v B => ∃ L, Q v B.U.heap L ∧ B.locs = A.locs ++ L ∧ B.cells = A.cells + rm.cells ∧ B.slots = A.slots + rm.slots ∧ CHr Z EL vm0 h B.U.vm B.U.heap) :=
  have hZ' : Z.Warmed39 vm0 := hZ
  BackS.of_freeW (bytes := bytes) (maxL := maxL) (ret := ret) (E := fun _ first o t L k n => k = rm.cells ∧ n = rm.slots ∧ (∃ v, o = .returned v ∧ Q v t.heap L) ∧ CHr Z EL first.vm first.heap t.vm t.heap) hM hf hl
    (fun m meth c A a Y hp => have hU : Z.Warmed39 A.U.vm := wtrans (s := s.setVm vm0) hZ' Y.warmed
      ⟨by show (Cond.and _ .tt).before a A.U = true; rw [Cond.before_and, mv hU wc]; rfl, mv hU wc, mv hU wz, hp.2.2.1, hp.2.2.2⟩)
    (fun m meth c A a g mk Y hp => ⟨hp.1, wtrans (s := s.setVm vm0) hZ' Y.warmed, hp.2.1, (CHv.at Y hZ' hEL H).1, fun x hx => (CHv.at Y hZ' hEL H).safe (hlt x hx) (hsf x hx)⟩) (fun _ _ _ _ _ _ _ _ _ => trivial)
    (fun _ _ _ _ ⟨v, L, h1, h2, h3, h4⟩ => ⟨L, _, _, h4, rfl, rfl, ⟨v, h1, h2⟩, h3⟩)
    (fun m meth c A a g mk v t L k n Y hp _ _ ⟨e1, e2, ⟨v', e3, e4⟩, e5⟩ => by
      cases e3; subst e1 e2
      refine ⟨L, e4, rfl, rfl, rfl, (CHv.at Y hZ' hEL H).trans ?_⟩
      rw [← hp.2.1]; exact e5)
/-- where a wide walk stands: all that its steps ask, bundled -/
def OwnSt (p : Program) (l : Launch) (e : Env) (R : Room) (s : State) (m : MethodId) (args : Array Value) (below : List Frame) (meth : Method) (c : Code) (Z : State) (EL : List (String × Nat)) (own : String) (n0 : Nat) (h0 : Heap) (ws : List Addr) (T : State) (h : Heap) (cells slots : Nat) : Prop :=
  ∃ (vm0 : Vm) (k0 : Nat) (locs : List Loc), Stand p l e R (s.setVm vm0) m args below meth c T locs cells slots ∧ T.heap = h ∧ s.Since vm0 k0 ∧ k0 ≤ h.size ∧ Z.Warmed39 (s.setVm vm0).vm ∧ (s.setVm vm0).vm.findClass own = some m.cls ∧ CHr Z EL s.vm h0 vm0 h ∧ Old Z n0 h ∧ Keep h0 h ws ∧ n0 ≤ h.size ∧ Fr n0 locs
end OwnWide
end Jvm.RoadKit
namespace Jvm.Pilot.@@N@@
open Jvm Jvm.ClassFile Sem Op Lib Jvm.Free Jvm.Stand Jvm.LawKit Jvm.RoadKit Bundle Jvm.Pilot.@@N@@.Jvm.D
abbrev own_EL : List (String × Nat) := consts_1
theorem own_EW {Z : State} {a0 : Array Value} (hw : ∀ d ∈ tables_1, d.before a0 Z = true) : EW Z a0 own_EL := (EW.cons (hw _ (List.mem_of_getElem? (i := 3) rfl)) (by decide +kernel) (EW.cons (hw _ (List.mem_of_getElem? (i := 11) rfl)) (by decide +kernel) EW.nil))
theorem own_wS {Z : State} {a0 : Array Value} (hw : ∀ d ∈ tables_1, d.before a0 Z = true) : ∀ a ∈ Bundle.stringAtoms, a.before a0 Z = true := fun d hd => hw d ((by decide +kernel : ∀ d ∈ Bundle.stringAtoms, d ∈ tables_1) d hd)

/-- a is an ordinary Latin-1 String whose bytes are bs -/
def OwnStr (Z : State) (h : Heap) (a : Addr) (bs : List Int32) : Prop := ∃ (t : Addr) (k : ClassId), Exa Z h a "java/lang/String" ∧ Fld Z h a "java/lang/String" "coder" "B" (.int 0) ∧ Fld Z h a "java/lang/String" "value" "[B" (.ref t) ∧ Arv Z h t k .byte (Int32.ofNat bs.length) (bs.map Value.int) (.int 0) ∧ bs.length ≤ 4000
theorem OwnStr.ext {Z : State} {h h' : Heap} {a : Addr} {bs : List Int32} (E : Ext h h') (F : OwnStr Z h a bs) : OwnStr Z h' a bs := by
  obtain ⟨t, k, h1, h2, h3, h4, h5⟩ := F
  exact ⟨t, k, h1.ext E, h2.ext E, h3.ext E, h4.ext E, h5⟩
theorem OwnStr.exa {Z : State} {h : Heap} {a : Addr} {bs : List Int32} (F : OwnStr Z h a bs) : Exa Z h a "java/lang/String" := by
  obtain ⟨t, k, h1, h2, h3, h4, h5⟩ := F
  exact h1
theorem own_exaarv {Z : State} {h : Heap} {t w : Addr} {C : String} {k : ClassId} {ty : FieldType} {z : Int32} {vs : List Value} {d : Value} {a0 : Array Value} {n : Nat} (A : Arv Z h t k ty z vs d) (E : Exa Z h w C) (wi : (Cond.instantiable C n).before a0 Z = true) : t ≠ w := Ne.symm (Exa.neArv E A wi)
theorem OwnStr.wrA {Z : State} {h h' : Heap} {a w : Addr} {bs : List Int32} {sl : Nat} {v : Value} {k : ClassId} {ty : FieldType} {z : Int32} {vs : List Value} {d : Value} {a0 : Array Value} {n : Nat} (W : Wr h h' w sl v) (A : Arv Z h w k ty z vs d) (q : ty ≠ .byte) (wi : (Cond.instantiable "java/lang/String" n).before a0 Z = true) (F : OwnStr Z h a bs) : OwnStr Z h' a bs := by
  obtain ⟨t, k', h1, h2, h3, h4, h5⟩ := F
  have n1 : a ≠ w := Exa.neArv h1 A wi
  have n2 : t ≠ w := Ne.symm (own_arv_ne A h4 q)
  exact ⟨t, k', h1.wr W, h2.other W (Or.inl n1), h3.other W (Or.inl n1), h4.other W n2, h5⟩
theorem OwnStr.wrE {Z : State} {h h' : Heap} {a w : Addr} {bs : List Int32} {sl : Nat} {v : Value} {C : String} {a0 : Array Value} {n : Nat} (W : Wr h h' w sl v) (E : Exa Z h w C) (q : C ≠ "java/lang/String") (wi : (Cond.instantiable C n).before a0 Z = true) (F : OwnStr Z h a bs) : OwnStr Z h' a bs := by
  obtain ⟨t, k', h1, h2, h3, h4, h5⟩ := F
  have n1 : a ≠ w := Exa.ne h1 E (Ne.symm q)
  have n2 : t ≠ w := own_exaarv h4 E wi
  exact ⟨t, k', h1.wr W, h2.other W (Or.inl n1), h3.other W (Or.inl n1), h4.other W n2, h5⟩
theorem OwnStr.keepE {Z : State} {h h' : Heap} {a w : Addr} {bs : List Int32} {C : String} {a0 : Array Value} {n : Nat} (K : Keep h h' [w]) (E : Exa Z h w C) (q : C ≠ "java/lang/String") (wi : (Cond.instantiable C n).before a0 Z = true) (F : OwnStr Z h a bs) : OwnStr Z h' a bs := by
  obtain ⟨t, k', h1, h2, h3, h4, h5⟩ := F
  have n1 : a ≠ w := Exa.ne h1 E (Ne.symm q)
  have n2 : t ≠ w := own_exaarv h4 E wi
  exact ⟨t, k', h1.keep K, h2.keep K (ninS n1 nin0), h3.keep K (ninS n1 nin0), h4.keep K (ninS n2 nin0), h5⟩
theorem own_i32 {n : Nat} (h : n < 2 ^ 31) : (Int32.ofNat n).toInt = n := Int32.toInt_ofNat_of_lt h
theorem own_nn {n : Nat} (h : n < 2 ^ 31) : ¬ Int32.ofNat n < 0 := by
  rw [Int32.lt_iff_toInt_lt, own_i32 h]
  have z : (0 : Int32).toInt = 0 := rfl
  omega
theorem own_clamp {n : Nat} (h : n < 2 ^ 31) : (Int32.ofNat n).toNatClampNeg = n := by
  have := nat_of (own_nn h)
  rw [own_i32 h] at this
  omega
theorem own_lti {i n : Nat} (h : n < 2 ^ 31) (hi : i < n) : Int32.ofNat i < Int32.ofNat n := by
  rw [Int32.lt_iff_toInt_lt, own_i32 h, own_i32 (Nat.lt_trans hi h)]
  omega
theorem own_eqi {i n : Nat} (hi : i < 2 ^ 31) (h : n < 2 ^ 31) (e : Int32.ofNat i = Int32.ofNat n) : i = n := by
  have := congrArg Int32.toInt e
  rw [own_i32 h, own_i32 hi] at this
  omega
theorem own_suci (i : Nat) : Int32.ofNat i + (1 : Int32) = Int32.ofNat (i + 1) := (Int32.ofNat_add i 1).symm
theorem own_mapget (bs : List Int32) (i : Nat) (hi : i < 2 ^ 31) : (bs.map Value.int).getD (Int32.ofNat i).toNatClampNeg (.int 0) = .int (bs.getD i 0) := by
  rw [own_clamp hi]
  simp only [List.getD_eq_getElem?_getD, List.getElem?_map]
  cases bs[i]? <;> rfl
theorem own_exteq {bs ds : List Int32} (hl : bs.length = ds.length) (h : ∀ j, j < bs.length → bs.getD j 0 = ds.getD j 0) : bs = ds := by
  apply List.ext_getElem hl
  intro i h1 h2
  have := h i h1
  simpa [List.getD_eq_getElem?_getD, h1, h2] using this
theorem leq_d0 : decode jdk_43_method_13_code 0 = .ok (.aload_n 0, 1) := by decide +kernel
theorem leq_d1 : decode jdk_43_method_13_code 1 = .ok (.arraylength, 1) := by decide +kernel
theorem leq_d2 : decode jdk_43_method_13_code 2 = .ok (.aload_n 1, 1) := by decide +kernel
theorem leq_d3 : decode jdk_43_method_13_code 3 = .ok (.arraylength, 1) := by decide +kernel
theorem leq_d4 : decode jdk_43_method_13_code 4 = .ok (.if_icmp .ne 30, 3) := by decide +kernel
theorem leq_d7 : decode jdk_43_method_13_code 7 = .ok (.iconst 0, 1) := by decide +kernel
theorem leq_d8 : decode jdk_43_method_13_code 8 = .ok (.istore_n 2, 1) := by decide +kernel
theorem leq_d9 : decode jdk_43_method_13_code 9 = .ok (.iload_n 2, 1) := by decide +kernel
theorem leq_d10 : decode jdk_43_method_13_code 10 = .ok (.aload_n 0, 1) := by decide +kernel
theorem leq_d11 : decode jdk_43_method_13_code 11 = .ok (.arraylength, 1) := by decide +kernel
theorem leq_d12 : decode jdk_43_method_13_code 12 = .ok (.if_icmp .ge 20, 3) := by decide +kernel
theorem leq_d15 : decode jdk_43_method_13_code 15 = .ok (.aload_n 0, 1) := by decide +kernel
theorem leq_d16 : decode jdk_43_method_13_code 16 = .ok (.iload_n 2, 1) := by decide +kernel
theorem leq_d17 : decode jdk_43_method_13_code 17 = .ok (.baload, 1) := by decide +kernel
theorem leq_d18 : decode jdk_43_method_13_code 18 = .ok (.aload_n 1, 1) := by decide +kernel
theorem leq_d19 : decode jdk_43_method_13_code 19 = .ok (.iload_n 2, 1) := by decide +kernel
theorem leq_d20 : decode jdk_43_method_13_code 20 = .ok (.baload, 1) := by decide +kernel
theorem leq_d21 : decode jdk_43_method_13_code 21 = .ok (.if_icmp .eq 5, 3) := by decide +kernel
theorem leq_d24 : decode jdk_43_method_13_code 24 = .ok (.iconst 0, 1) := by decide +kernel
theorem leq_d25 : decode jdk_43_method_13_code 25 = .ok (.ireturn, 1) := by decide +kernel
theorem leq_d26 : decode jdk_43_method_13_code 26 = .ok (.iinc 2 1, 3) := by decide +kernel
theorem leq_d29 : decode jdk_43_method_13_code 29 = .ok (.goto (-20), 3) := by decide +kernel
theorem leq_d32 : decode jdk_43_method_13_code 32 = .ok (.iconst 1, 1) := by decide +kernel
theorem leq_d33 : decode jdk_43_method_13_code 33 = .ok (.ireturn, 1) := by decide +kernel
theorem leq_d34 : decode jdk_43_method_13_code 34 = .ok (.iconst 0, 1) := by decide +kernel
theorem leq_d35 : decode jdk_43_method_13_code 35 = .ok (.ireturn, 1) := by decide +kernel
theorem leq_pn : plainName "java/lang/StringLatin1" = true := by first | (simp [plainName, overriddenIn]; done) | decide +kernel
theorem leq_ef (m : MethodId) (x0 : Addr) (x1 : Addr) : entryFrame m #[(.ref x0), (.ref x1)] 3 = mkF m 0 #[.val (.ref x0), .val (.ref x1), .unset] [] := by first | (simp [entryFrame, mkF, argsToLocals, Value.category]; done) | rfl
set_option maxRecDepth 65536 in
set_option maxHeartbeats 40000000 in
theorem rm_leq (l : Launch) (Z : State) (a0 : Array Value) (hw : ∀ d ∈ tables_1, d.before a0 Z = true) (ws : List Jvm.Cond) (t1 : Addr) (t2 : Addr) (k1 : ClassId) (k2 : ClassId) (bs : List Int32) (ds : List Int32) (h0 : Heap) (n0 : Nat) (Z0 : n0 ≤ h0.size) (V1 : Arv Z h0 t1 k1 .byte (Int32.ofNat bs.length) (bs.map Value.int) (.int 0)) (V2 : Arv Z h0 t2 k2 .byte (Int32.ofNat ds.length) (ds.map Value.int) (.int 0)) (m1 : bs.length ≤ 4000) (m2 : ds.length ≤ 4000) :
    MetFree l (⟨"java/lang/StringLatin1", "equals", "([B[B)Z"⟩ : MethodName) (head1 (Jvm.Cond.code (⟨"java/lang/StringLatin1", "equals", "([B[B)Z"⟩ : MethodName) jdk_43_method_13_code 3 (some .boolean) :: ws) ({ frames := 0, cells := 0, slots := 0, locals := 0 } : Room)) (fun a U => a = #[(.ref t1), (.ref t2)] ∧ Z.Warmed39 U.vm ∧ U.heap = h0) (fun _ _ _ _ _ => True) (fun _ U o U' => OwnEnd U (fun v h L => v = some (.int (if bs = ds then 1 else 0)) ∧ Fr n0 L ∧ h = h0) ({ frames := 0, cells := 0, slots := 0, locals := 0 } : Room).cells ({ frames := 0, cells := 0, slots := 0, locals := 0 } : Room).slots o U') := by
  refine MetFree.of_bodySF (plainFor_of_name leq_pn) hisR ?_
  intro p e s m args below meth c s₁ Bd hml0 hP hK
  obtain ⟨rfl, hZ, hh⟩ := hP
  have hx := Bd.exec
  have hby := Bd.bytes
  have hml : c.maxLocals = 3 := hml0
  have hown : s.vm.findClass "java/lang/StringLatin1" = some m.cls := findClass_of_methodNamed Bd.named
  have hnm := (name_of_methodNamed Bd.named Bd.method).1
  have X0 : Stand p l e ({ frames := 0, cells := 0, slots := 0, locals := 0 } : Room) s m #[(.ref t1), (.ref t2)] below meth c s₁ [] 0 0 := Stand.of_body Bd
  have e0 : s₁.heap = h0 := by rw [← hh, Bd.state]; rfl
  have N0 := Fr.nil n0
  have KP0 := Keep.refl h0 []
  refine own_go (Q := (OwnEnd s (fun v h L => v = some (.int (if bs = ds then 1 else 0)) ∧ Fr n0 L ∧ h = h0) ({ frames := 0, cells := 0, slots := 0, locals := 0 } : Room).cells ({ frames := 0, cells := 0, slots := 0, locals := 0 } : Room).slots)) ?_
  refine own_back (fun t k => castTop (leq_ef m t1 t2) k) ?_
  show OwnGo p e below (s₁.setTop (mkF m 0 #[.val (.ref t1), .val (.ref t2), .unset] [])) _
  refine own_back (fun t k => XS.aloadN X0.here hx rfl (hb hby leq_d0) rfl rfl k) ?_
  show OwnGo p e below (s₁.setTop (mkF m 1 #[.val (.ref t1), .val (.ref t2), .unset] [(.ref t1)])) _
  obtain ⟨c101, A101, q101, S101, M101, H101, U101⟩ := id V1
  refine own_back (fun t k => X0.arraylength hx (own_hat e0 A101.1) (State.isArrayOf_alike hZ.alike A101.2.1) (g := (mkF m 1 #[.val (.ref t1), .val (.ref t2), .unset] [(.ref t1)])) rfl rfl (hb hby leq_d1) t k) ?_
  rw [len_of S101 M101]
  show OwnGo p e below (s₁.setTop (mkF m 2 #[.val (.ref t1), .val (.ref t2), .unset] [(.int (Int32.ofNat bs.length))])) _
  refine own_back (fun t k => XS.aloadN X0.here hx rfl (hb hby leq_d2) rfl rfl k) ?_
  show OwnGo p e below (s₁.setTop (mkF m 3 #[.val (.ref t1), .val (.ref t2), .unset] [(.ref t2), (.int (Int32.ofNat bs.length))])) _
  obtain ⟨c102, A102, q102, S102, M102, H102, U102⟩ := id V2
  refine own_back (fun t k => X0.arraylength hx (own_hat e0 A102.1) (State.isArrayOf_alike hZ.alike A102.2.1) (g := (mkF m 3 #[.val (.ref t1), .val (.ref t2), .unset] [(.ref t2), (.int (Int32.ofNat bs.length))])) rfl rfl (hb hby leq_d3) t k) ?_
  rw [len_of S102 M102]
  show OwnGo p e below (s₁.setTop (mkF m 4 #[.val (.ref t1), .val (.ref t2), .unset] [(.int (Int32.ofNat ds.length)), (.int (Int32.ofNat bs.length))])) _
  by_cases hc4_103 : (Int32.ofNat bs.length) = (Int32.ofNat ds.length)
  · refine own_back (fun t k => XS.icmpNo X0.here hx rfl (hb hby leq_d4) rfl (Jvm.Free.XT.ii_ne_f hc4_103) k) ?_
    show OwnGo p e below (s₁.setTop (mkF m 7 #[.val (.ref t1), .val (.ref t2), .unset] [])) _
    refine own_back (fun t k => XS.iconst X0.here hx rfl (hb hby leq_d7) k) ?_
    show OwnGo p e below (s₁.setTop (mkF m 8 #[.val (.ref t1), .val (.ref t2), .unset] [(.int (0 : Int32))])) _
    refine own_back (fun t k => XS.istoreN X0.here hx rfl (hb hby leq_d8) rfl (l' := #[.val (.ref t1), .val (.ref t2), .val (.int (0 : Int32))]) rfl k) ?_
    show OwnGo p e below (s₁.setTop (mkF m 9 #[.val (.ref t1), .val (.ref t2), .val (.int (0 : Int32))] [])) _
    have hl104 : bs.length = ds.length := own_eqi (by omega) (by omega) hc4_103
    have loop : ∀ (j i : Nat), i + j = bs.length → (∀ q, q < i → bs.getD q 0 = ds.getD q 0) → OwnGo p e below (s₁.setTop (mkF m 9 #[.val (.ref t1), .val (.ref t2), .val (.int (Int32.ofNat i))] [])) (OwnEnd s (fun v h L => v = some (.int (if bs = ds then 1 else 0)) ∧ Fr n0 L ∧ h = h0) ({ frames := 0, cells := 0, slots := 0, locals := 0 } : Room).cells ({ frames := 0, cells := 0, slots := 0, locals := 0 } : Room).slots) := by
      intro j
      induction j with
      | zero =>
        intro i hi hs
        show OwnGo p e below (s₁.setTop (mkF m 9 #[.val (.ref t1), .val (.ref t2), .val (.int (Int32.ofNat i))] [])) _
        refine own_back (fun t k => XS.iloadN X0.here hx rfl (hb hby leq_d9) rfl k) ?_
        show OwnGo p e below (s₁.setTop (mkF m 10 #[.val (.ref t1), .val (.ref t2), .val (.int (Int32.ofNat i))] [(.int (Int32.ofNat i))])) _
        refine own_back (fun t k => XS.aloadN X0.here hx rfl (hb hby leq_d10) rfl rfl k) ?_
        show OwnGo p e below (s₁.setTop (mkF m 11 #[.val (.ref t1), .val (.ref t2), .val (.int (Int32.ofNat i))] [(.ref t1), (.int (Int32.ofNat i))])) _
        obtain ⟨c105, A105, q105, S105, M105, H105, U105⟩ := id V1
        refine own_back (fun t k => X0.arraylength hx (own_hat e0 A105.1) (State.isArrayOf_alike hZ.alike A105.2.1) (g := (mkF m 11 #[.val (.ref t1), .val (.ref t2), .val (.int (Int32.ofNat i))] [(.ref t1), (.int (Int32.ofNat i))])) rfl rfl (hb hby leq_d11) t k) ?_
        rw [len_of S105 M105]
        show OwnGo p e below (s₁.setTop (mkF m 12 #[.val (.ref t1), .val (.ref t2), .val (.int (Int32.ofNat i))] [(.int (Int32.ofNat bs.length)), (.int (Int32.ofNat i))])) _
        refine own_back (fun t k => XS.icmpYes X0.here hx rfl (pc0 := 12) (pc' := 32) rfl (hb hby leq_d12) rfl (Jvm.Free.XT.ii_ge_t (by rw [show i = bs.length by omega]; exact Int32.lt_irrefl)) (by decide) (by decide) k) ?_
        show OwnGo p e below (s₁.setTop (mkF m 32 #[.val (.ref t1), .val (.ref t2), .val (.int (Int32.ofNat i))] [])) _
        refine own_back (fun t k => XS.iconst X0.here hx rfl (hb hby leq_d32) k) ?_
        show OwnGo p e below (s₁.setTop (mkF m 33 #[.val (.ref t1), .val (.ref t2), .val (.int (Int32.ofNat i))] [(.int (1 : Int32))])) _
        refine own_retN X0 hx Bd.notSynchronized (t := .boolean) (z := (1 : Int32)) Bd.returns (by simp) rfl (hb hby leq_d33) e0 (Nat.le_of_ble_eq_true rfl) (Nat.le_of_ble_eq_true rfl) ?_
        exact ⟨by rw [if_pos (own_exteq hl104 (fun q hq => hs q (by omega)))], N0, rfl⟩
      | succ j ih =>
        intro i hi hs
        show OwnGo p e below (s₁.setTop (mkF m 9 #[.val (.ref t1), .val (.ref t2), .val (.int (Int32.ofNat i))] [])) _
        refine own_back (fun t k => XS.iloadN X0.here hx rfl (hb hby leq_d9) rfl k) ?_
        show OwnGo p e below (s₁.setTop (mkF m 10 #[.val (.ref t1), .val (.ref t2), .val (.int (Int32.ofNat i))] [(.int (Int32.ofNat i))])) _
        refine own_back (fun t k => XS.aloadN X0.here hx rfl (hb hby leq_d10) rfl rfl k) ?_
        show OwnGo p e below (s₁.setTop (mkF m 11 #[.val (.ref t1), .val (.ref t2), .val (.int (Int32.ofNat i))] [(.ref t1), (.int (Int32.ofNat i))])) _
        obtain ⟨c106, A106, q106, S106, M106, H106, U106⟩ := id V1
        refine own_back (fun t k => X0.arraylength hx (own_hat e0 A106.1) (State.isArrayOf_alike hZ.alike A106.2.1) (g := (mkF m 11 #[.val (.ref t1), .val (.ref t2), .val (.int (Int32.ofNat i))] [(.ref t1), (.int (Int32.ofNat i))])) rfl rfl (hb hby leq_d11) t k) ?_
        rw [len_of S106 M106]
        show OwnGo p e below (s₁.setTop (mkF m 12 #[.val (.ref t1), .val (.ref t2), .val (.int (Int32.ofNat i))] [(.int (Int32.ofNat bs.length)), (.int (Int32.ofNat i))])) _
        refine own_back (fun t k => XS.icmpNo X0.here hx rfl (hb hby leq_d12) rfl (Jvm.Free.XT.ii_ge_f (own_lti (by omega) (by omega))) k) ?_
        show OwnGo p e below (s₁.setTop (mkF m 15 #[.val (.ref t1), .val (.ref t2), .val (.int (Int32.ofNat i))] [])) _
        refine own_back (fun t k => XS.aloadN X0.here hx rfl (hb hby leq_d15) rfl rfl k) ?_
        show OwnGo p e below (s₁.setTop (mkF m 16 #[.val (.ref t1), .val (.ref t2), .val (.int (Int32.ofNat i))] [(.ref t1)])) _
        refine own_back (fun t k => XS.iloadN X0.here hx rfl (hb hby leq_d16) rfl k) ?_
        show OwnGo p e below (s₁.setTop (mkF m 17 #[.val (.ref t1), .val (.ref t2), .val (.int (Int32.ofNat i))] [(.int (Int32.ofNat i)), (.ref t1)])) _
        obtain ⟨c107, A107, q107, S107, M107, H107, U107⟩ := id V1
        have ib108 : ¬ ((Int32.ofNat i) < 0 ∨ c107.slots.size ≤ ((Int32.ofNat i)).toNatClampNeg) := (inb_of S107 ⟨own_nn (by omega), own_lti (by omega) (by omega)⟩)
        refine own_back (fun t k => X0.baloadBytes hx (j := (Int32.ofNat i)) (v := (.int (bs.getD i 0))) (own_hat e0 A107.1) (State.isArrayOf_alike hZ.alike A107.2.1) A107.2.2 ib108 (H107.at ib108 (own_mapget bs i (by omega))) (g := (mkF m 17 #[.val (.ref t1), .val (.ref t2), .val (.int (Int32.ofNat i))] [(.int (Int32.ofNat i)), (.ref t1)])) rfl rfl (hb hby leq_d17) t k) ?_
        show OwnGo p e below (s₁.setTop (mkF m 18 #[.val (.ref t1), .val (.ref t2), .val (.int (Int32.ofNat i))] [(.int (bs.getD i 0))])) _
        refine own_back (fun t k => XS.aloadN X0.here hx rfl (hb hby leq_d18) rfl rfl k) ?_
        show OwnGo p e below (s₁.setTop (mkF m 19 #[.val (.ref t1), .val (.ref t2), .val (.int (Int32.ofNat i))] [(.ref t2), (.int (bs.getD i 0))])) _
        refine own_back (fun t k => XS.iloadN X0.here hx rfl (hb hby leq_d19) rfl k) ?_
        show OwnGo p e below (s₁.setTop (mkF m 20 #[.val (.ref t1), .val (.ref t2), .val (.int (Int32.ofNat i))] [(.int (Int32.ofNat i)), (.ref t2), (.int (bs.getD i 0))])) _
        obtain ⟨c109, A109, q109, S109, M109, H109, U109⟩ := id V2
        have ib110 : ¬ ((Int32.ofNat i) < 0 ∨ c109.slots.size ≤ ((Int32.ofNat i)).toNatClampNeg) := (inb_of S109 ⟨own_nn (by omega), own_lti (by omega) (by omega)⟩)
        refine own_back (fun t k => X0.baloadBytes hx (j := (Int32.ofNat i)) (v := (.int (ds.getD i 0))) (own_hat e0 A109.1) (State.isArrayOf_alike hZ.alike A109.2.1) A109.2.2 ib110 (H109.at ib110 (own_mapget ds i (by omega))) (g := (mkF m 20 #[.val (.ref t1), .val (.ref t2), .val (.int (Int32.ofNat i))] [(.int (Int32.ofNat i)), (.ref t2), (.int (bs.getD i 0))])) rfl rfl (hb hby leq_d20) t k) ?_
        show OwnGo p e below (s₁.setTop (mkF m 21 #[.val (.ref t1), .val (.ref t2), .val (.int (Int32.ofNat i))] [(.int (ds.getD i 0)), (.int (bs.getD i 0))])) _
        by_cases hc21_111 : (bs.getD i 0) = (ds.getD i 0)
        · refine own_back (fun t k => XS.icmpYes X0.here hx rfl (pc0 := 21) (pc' := 26) rfl (hb hby leq_d21) rfl (Jvm.Free.XT.ii_eq_t hc21_111) (by decide) (by decide) k) ?_
          show OwnGo p e below (s₁.setTop (mkF m 26 #[.val (.ref t1), .val (.ref t2), .val (.int (Int32.ofNat i))] [])) _
          refine own_back (fun t k => XS.iinc X0.here hx rfl (hb hby leq_d26) rfl (l' := #[.val (.ref t1), .val (.ref t2), .val (.int ((Int32.ofNat i) + (1 : Int32)))]) rfl k) ?_
          show OwnGo p e below (s₁.setTop (mkF m 29 #[.val (.ref t1), .val (.ref t2), .val (.int ((Int32.ofNat i) + (1 : Int32)))] [])) _
          refine own_back (fun t k => XS.goto X0.here hx rfl (pc0 := 29) (pc' := 9) rfl (hb hby leq_d29) (by decide) (by decide) k) ?_
          show OwnGo p e below (s₁.setTop (mkF m 9 #[.val (.ref t1), .val (.ref t2), .val (.int ((Int32.ofNat i) + (1 : Int32)))] [])) _
          rw [own_suci]
          refine ih (i + 1) (by omega) (fun q hq => ?_)
          rcases Nat.lt_succ_iff_lt_or_eq.mp hq with h | h
          · exact hs q h
          · rw [h]; exact hc21_111
        · refine own_back (fun t k => XS.icmpNo X0.here hx rfl (hb hby leq_d21) rfl (Jvm.Free.XT.ii_eq_f hc21_111) k) ?_
          show OwnGo p e below (s₁.setTop (mkF m 24 #[.val (.ref t1), .val (.ref t2), .val (.int (Int32.ofNat i))] [])) _
          refine own_back (fun t k => XS.iconst X0.here hx rfl (hb hby leq_d24) k) ?_
          show OwnGo p e below (s₁.setTop (mkF m 25 #[.val (.ref t1), .val (.ref t2), .val (.int (Int32.ofNat i))] [(.int (0 : Int32))])) _
          refine own_retN X0 hx Bd.notSynchronized (t := .boolean) (z := (0 : Int32)) Bd.returns (by simp) rfl (hb hby leq_d25) e0 (Nat.le_of_ble_eq_true rfl) (Nat.le_of_ble_eq_true rfl) ?_
          exact ⟨by rw [if_neg (fun q => hc21_111 (by rw [q]))], N0, rfl⟩
    exact loop bs.length 0 (by omega) (fun q hq => absurd hq (Nat.not_lt_zero _))
  · refine own_back (fun t k => XS.icmpYes X0.here hx rfl (pc0 := 4) (pc' := 34) rfl (hb hby leq_d4) rfl (Jvm.Free.XT.ii_ne_t hc4_103) (by decide) (by decide) k) ?_
    show OwnGo p e below (s₁.setTop (mkF m 34 #[.val (.ref t1), .val (.ref t2), .unset] [])) _
    refine own_back (fun t k => XS.iconst X0.here hx rfl (hb hby leq_d34) k) ?_
    show OwnGo p e below (s₁.setTop (mkF m 35 #[.val (.ref t1), .val (.ref t2), .unset] [(.int (0 : Int32))])) _
    refine own_retN X0 hx Bd.notSynchronized (t := .boolean) (z := (0 : Int32)) Bd.returns (by simp) rfl (hb hby leq_d35) e0 (Nat.le_of_ble_eq_true rfl) (Nat.le_of_ble_eq_true rfl) ?_
    exact ⟨by rw [if_neg (fun q => hc4_103 (by rw [q]))], N0, rfl⟩
theorem own_ite0 {P : Prop} [Decidable P] (h : (if P then (1 : Int32) else 0) = 0) : (if P then (1 : Int32) else 0) = 0 := h
theorem own_ite1 {P : Prop} [Decidable P] (h : ¬ (if P then (1 : Int32) else 0) = 0) : (if P then (1 : Int32) else 0) = 1 := by
  by_cases q : P
  · exact if_pos q
  · exact absurd (if_neg q) h
theorem own_arvget {Z : State} {h : Heap} {t : Addr} {k k' : ClassId} {ty ty' : FieldType} {z z' : Int32} {vs vs' : List Value} {d d' : Value} (A : Arv Z h t k ty z vs d) (B : Arv Z h t k' ty' z' vs' d') : z.toNatClampNeg = z'.toNatClampNeg ∧ ∀ i, i < z.toNatClampNeg → vs.getD i d = vs'.getD i d' := by
  obtain ⟨c, A1, -, A3, -, A5, -⟩ := A
  obtain ⟨c', B1, -, B3, -, B5, -⟩ := B
  cases A1.1.symm.trans B1.1
  refine ⟨A3.symm.trans B3, fun i hi => ?_⟩
  have q1 := A5 i (by omega)
  have q2 := B5 i (by omega)
  exact Option.some.inj (q1.symm.trans q2)
theorem own_sameb {Z : State} {h : Heap} {a : Addr} {bs ds : List Int32} (F : OwnStr Z h a bs) (G : OwnStr Z h a ds) : bs = ds := by
  obtain ⟨t, k, h1, h2, h3, h4, h5⟩ := F
  obtain ⟨t', k', g1, g2, g3, g4, g5⟩ := G
  have e : t = t' := Decidable.byContradiction fun q => Fld.ne h3 g3 (fun z => q (Value.ref.inj z)) rfl
  subst e
  obtain ⟨q1, q2⟩ := own_arvget h4 g4
  rw [own_clamp (by omega), own_clamp (by omega)] at q1
  rw [own_clamp (by omega)] at q2
  refine own_exteq q1 fun j hj => ?_
  have := q2 j hj
  have e1 := own_mapget bs j (by omega)
  have e2 := own_mapget ds j (by omega)
  rw [own_clamp (by omega)] at e1 e2
  rw [e1, e2] at this
  exact Value.int.inj this
theorem seq_d0 : decode jdk_42_method_66_code 0 = .ok (.aload_n 0, 1) := by decide +kernel
theorem seq_d1 : decode jdk_42_method_66_code 1 = .ok (.aload_n 1, 1) := by decide +kernel
theorem seq_d2 : decode jdk_42_method_66_code 2 = .ok (.if_acmp .ne 5, 3) := by decide +kernel
theorem seq_d5 : decode jdk_42_method_66_code 5 = .ok (.iconst 1, 1) := by decide +kernel
theorem seq_d6 : decode jdk_42_method_66_code 6 = .ok (.ireturn, 1) := by decide +kernel
theorem seq_d7 : decode jdk_42_method_66_code 7 = .ok (.aload_n 1, 1) := by decide +kernel
theorem seq_d8 : decode jdk_42_method_66_code 8 = .ok (.instanceof 10, 3) := by decide +kernel
theorem seq_d11 : decode jdk_42_method_66_code 11 = .ok (.ifCond .eq 43, 3) := by decide +kernel
theorem seq_d14 : decode jdk_42_method_66_code 14 = .ok (.aload_n 1, 1) := by decide +kernel
theorem seq_d15 : decode jdk_42_method_66_code 15 = .ok (.checkcast 10, 3) := by decide +kernel
theorem seq_d18 : decode jdk_42_method_66_code 18 = .ok (.astore_n 2, 1) := by decide +kernel
theorem seq_d19 : decode jdk_42_method_66_code 19 = .ok (.getstatic 38, 3) := by decide +kernel
theorem seq_d22 : decode jdk_42_method_66_code 22 = .ok (.ifCond .eq 14, 3) := by decide +kernel
theorem seq_d25 : decode jdk_42_method_66_code 25 = .ok (.aload_n 0, 1) := by decide +kernel
theorem seq_d26 : decode jdk_42_method_66_code 26 = .ok (.getfield 15, 3) := by decide +kernel
theorem seq_d29 : decode jdk_42_method_66_code 29 = .ok (.aload_n 2, 1) := by decide +kernel
theorem seq_d30 : decode jdk_42_method_66_code 30 = .ok (.getfield 15, 3) := by decide +kernel
theorem seq_d33 : decode jdk_42_method_66_code 33 = .ok (.if_icmp .ne 21, 3) := by decide +kernel
theorem seq_d36 : decode jdk_42_method_66_code 36 = .ok (.aload_n 0, 1) := by decide +kernel
theorem seq_d37 : decode jdk_42_method_66_code 37 = .ok (.getfield 9, 3) := by decide +kernel
theorem seq_d40 : decode jdk_42_method_66_code 40 = .ok (.aload_n 2, 1) := by decide +kernel
theorem seq_d41 : decode jdk_42_method_66_code 41 = .ok (.getfield 9, 3) := by decide +kernel
theorem seq_d44 : decode jdk_42_method_66_code 44 = .ok (.invokestatic 541, 3) := by decide +kernel
theorem seq_d47 : decode jdk_42_method_66_code 47 = .ok (.ifCond .eq 7, 3) := by decide +kernel
theorem seq_d50 : decode jdk_42_method_66_code 50 = .ok (.iconst 1, 1) := by decide +kernel
theorem seq_d51 : decode jdk_42_method_66_code 51 = .ok (.goto 4, 3) := by decide +kernel
theorem seq_d54 : decode jdk_42_method_66_code 54 = .ok (.iconst 0, 1) := by decide +kernel
theorem seq_d55 : decode jdk_42_method_66_code 55 = .ok (.ireturn, 1) := by decide +kernel
theorem seq_pn : plainName "java/lang/String" = true := by first | (simp [plainName, overriddenIn]; done) | decide +kernel
theorem seq_pd0 : parseMethodDescriptor "([B[B)Z" = some ⟨[(.array .byte), (.array .byte)], some .boolean⟩ := by decide +kernel
theorem seq_ef (m : MethodId) (x0 : Addr) (x1 : Addr) : entryFrame m #[(.ref x0), (.ref x1)] 3 = mkF m 0 #[.val (.ref x0), .val (.ref x1), .unset] [] := by first | (simp [entryFrame, mkF, argsToLocals, Value.category]; done) | rfl
set_option maxRecDepth 65536 in
set_option maxHeartbeats 40000000 in
theorem rm_seq (l : Launch) (Z : State) (a0 : Array Value) (hw : ∀ d ∈ tables_1, d.before a0 Z = true) (ws : List Jvm.Cond) (a1 : Addr) (a2 : Addr) (bs : List Int32) (ds : List Int32) (cz : Int32) (h0 : Heap) (n0 : Nat) (Z0 : n0 ≤ h0.size) (OL : Old Z n0 h0) (B1 : OwnStr Z h0 a1 bs) (B2 : OwnStr Z h0 a2 ds) (SC : Sta Z Z.heap "java/lang/String" "COMPACT_STRINGS" "Z" (.int cz)) (hcz : ¬ cz = 0) :
    MetFree l (⟨"java/lang/String", "equals", "(Ljava/lang/Object;)Z"⟩ : MethodName) (head1 (Jvm.Cond.code (⟨"java/lang/String", "equals", "(Ljava/lang/Object;)Z"⟩ : MethodName) jdk_42_method_66_code 3 (some .boolean) :: ws) ({ frames := 1, cells := 0, slots := 0, locals := 20 } : Room)) (fun a U => a = #[(.ref a1), (.ref a2)] ∧ Z.Warmed39 U.vm ∧ U.heap = h0) (fun _ _ _ _ _ => True) (fun _ U o U' => OwnEnd U (fun v h L => v = some (.int (if bs = ds then 1 else 0)) ∧ Fr n0 L ∧ h = h0) ({ frames := 1, cells := 0, slots := 0, locals := 20 } : Room).cells ({ frames := 1, cells := 0, slots := 0, locals := 20 } : Room).slots o U') := by
  refine MetFree.of_bodySF (plainFor_of_name seq_pn) hisR ?_
  intro p e s m args below meth c s₁ Bd hml0 hP hK
  obtain ⟨rfl, hZ, hh⟩ := hP
  have hx := Bd.exec
  have hby := Bd.bytes
  have hml : c.maxLocals = 3 := hml0
  have hown : s.vm.findClass "java/lang/String" = some m.cls := findClass_of_methodNamed Bd.named
  have hnm := (name_of_methodNamed Bd.named Bd.method).1
  have X0 : Stand p l e ({ frames := 1, cells := 0, slots := 0, locals := 20 } : Room) s m #[(.ref a1), (.ref a2)] below meth c s₁ [] 0 0 := Stand.of_body Bd
  have e0 : s₁.heap = h0 := by rw [← hh, Bd.state]; rfl
  have N0 := Fr.nil n0
  have KP0 := Keep.refl h0 []
  refine own_go (Q := (OwnEnd s (fun v h L => v = some (.int (if bs = ds then 1 else 0)) ∧ Fr n0 L ∧ h = h0) ({ frames := 1, cells := 0, slots := 0, locals := 20 } : Room).cells ({ frames := 1, cells := 0, slots := 0, locals := 20 } : Room).slots)) ?_
  refine own_back (fun t k => castTop (seq_ef m a1 a2) k) ?_
  show OwnGo p e below (s₁.setTop (mkF m 0 #[.val (.ref a1), .val (.ref a2), .unset] [])) _
  obtain ⟨t1, k1, E1, C1, F1, V1, m1⟩ := B1
  obtain ⟨t2, k2, E2, C2, F2, V2, m2⟩ := B2
  refine own_back (fun t k => XS.aloadN X0.here hx rfl (hb hby seq_d0) rfl rfl k) ?_
  show OwnGo p e below (s₁.setTop (mkF m 1 #[.val (.ref a1), .val (.ref a2), .unset] [(.ref a1)])) _
  refine own_back (fun t k => XS.aloadN X0.here hx rfl (hb hby seq_d1) rfl rfl k) ?_
  show OwnGo p e below (s₁.setTop (mkF m 2 #[.val (.ref a1), .val (.ref a2), .unset] [(.ref a2), (.ref a1)])) _
  by_cases ha2_112 : a1 = a2
  · refine own_back (fun t k => Jvm.RoadKit.acmp (g := (mkF m 2 #[.val (.ref a1), .val (.ref a2), .unset] [(.ref a2), (.ref a1)])) X0 hx rfl rfl rfl (pc0 := 2) (pc' := 5) (same := true) rfl (hb hby seq_d2) rfl (decide_eq_true (congrArg Value.ref ha2_112)) (by decide) (by decide) k) ?_
    show OwnGo p e below (s₁.setTop (mkF m 5 #[.val (.ref a1), .val (.ref a2), .unset] [])) _
    refine own_back (fun t k => XS.iconst X0.here hx rfl (hb hby seq_d5) k) ?_
    show OwnGo p e below (s₁.setTop (mkF m 6 #[.val (.ref a1), .val (.ref a2), .unset] [(.int (1 : Int32))])) _
    refine own_retN X0 hx Bd.notSynchronized (t := .boolean) (z := (1 : Int32)) Bd.returns (by simp) rfl (hb hby seq_d6) e0 (Nat.le_of_ble_eq_true rfl) (Nat.le_of_ble_eq_true rfl) ?_
    exact ⟨by rw [if_pos (own_sameb (by exact ⟨_, _, E1, C1, F1, V1, m1⟩) (by rw [ha2_112]; exact ⟨_, _, E2, C2, F2, V2, m2⟩))], N0, rfl⟩
  · refine own_back (fun t k => Jvm.RoadKit.acmp (g := (mkF m 2 #[.val (.ref a1), .val (.ref a2), .unset] [(.ref a2), (.ref a1)])) X0 hx rfl rfl rfl (pc0 := 2) (pc' := 7) (same := false) rfl (hb hby seq_d2) rfl (decide_eq_false fun q => ha2_112 (Value.ref.inj q)) (by decide) (by decide) k) ?_
    show OwnGo p e below (s₁.setTop (mkF m 7 #[.val (.ref a1), .val (.ref a2), .unset] [])) _
    refine own_back (fun t k => XS.aloadN X0.here hx rfl (hb hby seq_d7) rfl rfl k) ?_
    show OwnGo p e below (s₁.setTop (mkF m 8 #[.val (.ref a1), .val (.ref a2), .unset] [(.ref a2)])) _
    obtain ⟨T113, X113, e113, st113⟩ := instY X0 hx hZ hown (hw _ (List.mem_of_getElem? (i := 41) rfl)) e0 (Ins.self E2) (g := (mkF m 8 #[.val (.ref a1), .val (.ref a2), .unset] [(.ref a2)])) rfl rfl (hb hby seq_d8)
    refine own_back st113 ?_
    show OwnGo p e below (T113.setTop (mkF m 11 #[.val (.ref a1), .val (.ref a2), .unset] [(.int (1 : Int32))])) _
    refine own_back (fun t k => XS.ifNo X113.here hx rfl (hb hby seq_d11) rfl (Jvm.Free.XT.i0_eq_f (by decide)) k) ?_
    show OwnGo p e below (T113.setTop (mkF m 14 #[.val (.ref a1), .val (.ref a2), .unset] [])) _
    refine own_back (fun t k => XS.aloadN X113.here hx rfl (hb hby seq_d14) rfl rfl k) ?_
    show OwnGo p e below (T113.setTop (mkF m 15 #[.val (.ref a1), .val (.ref a2), .unset] [(.ref a2)])) _
    obtain ⟨T114, X114, e114, st114⟩ := castY X113 hx hZ hown (hw _ (List.mem_of_getElem? (i := 41) rfl)) e113 (Ins.self E2) (g := (mkF m 15 #[.val (.ref a1), .val (.ref a2), .unset] [(.ref a2)])) rfl rfl (hb hby seq_d15)
    refine own_back st114 ?_
    show OwnGo p e below (T114.setTop (mkF m 18 #[.val (.ref a1), .val (.ref a2), .unset] [(.ref a2)])) _
    refine own_back (fun t k => XS.astoreN X114.here hx rfl (hb hby seq_d18) rfl rfl (l' := #[.val (.ref a1), .val (.ref a2), .val (.ref a2)]) rfl k) ?_
    show OwnGo p e below (T114.setTop (mkF m 19 #[.val (.ref a1), .val (.ref a2), .val (.ref a2)] [])) _
    obtain ⟨T115, X115, e115, st115⟩ := getS2 X114 hx hZ hown (host := "") (Or.inl (hw _ (List.mem_of_getElem? (i := 42) rfl))) Via.refl e114 (SC.ext OL.2) (g := (mkF m 19 #[.val (.ref a1), .val (.ref a2), .val (.ref a2)] [])) rfl (hb hby seq_d19)
    refine own_back st115 ?_
    show OwnGo p e below (T115.setTop (mkF m 22 #[.val (.ref a1), .val (.ref a2), .val (.ref a2)] [(.int cz)])) _
    refine own_back (fun t k => XS.ifNo X115.here hx rfl (hb hby seq_d22) rfl (Jvm.Free.XT.i0_eq_f hcz) k) ?_
    show OwnGo p e below (T115.setTop (mkF m 25 #[.val (.ref a1), .val (.ref a2), .val (.ref a2)] [])) _
    refine own_back (fun t k => XS.aloadN X115.here hx rfl (hb hby seq_d25) rfl rfl k) ?_
    show OwnGo p e below (T115.setTop (mkF m 26 #[.val (.ref a1), .val (.ref a2), .val (.ref a2)] [(.ref a1)])) _
    obtain ⟨T116, X116, e116, st116⟩ := getF X115 hx hZ hown (host := "") (Or.inl (hw _ (List.mem_of_getElem? (i := 43) rfl))) Via.refl e115 C1 (g := (mkF m 26 #[.val (.ref a1), .val (.ref a2), .val (.ref a2)] [(.ref a1)])) rfl rfl (hb hby seq_d26)
    refine own_back st116 ?_
    show OwnGo p e below (T116.setTop (mkF m 29 #[.val (.ref a1), .val (.ref a2), .val (.ref a2)] [(.int (0 : Int32))])) _
    refine own_back (fun t k => XS.aloadN X116.here hx rfl (hb hby seq_d29) rfl rfl k) ?_
    show OwnGo p e below (T116.setTop (mkF m 30 #[.val (.ref a1), .val (.ref a2), .val (.ref a2)] [(.ref a2), (.int (0 : Int32))])) _
    obtain ⟨T117, X117, e117, st117⟩ := getF X116 hx hZ hown (host := "") (Or.inl (hw _ (List.mem_of_getElem? (i := 43) rfl))) Via.refl e116 C2 (g := (mkF m 30 #[.val (.ref a1), .val (.ref a2), .val (.ref a2)] [(.ref a2), (.int (0 : Int32))])) rfl rfl (hb hby seq_d30)
    refine own_back st117 ?_
    show OwnGo p e below (T117.setTop (mkF m 33 #[.val (.ref a1), .val (.ref a2), .val (.ref a2)] [(.int (0 : Int32)), (.int (0 : Int32))])) _
    refine own_back (fun t k => XS.icmpNo X117.here hx rfl (hb hby seq_d33) rfl (Jvm.Free.XT.ii_ne_f (by decide)) k) ?_
    show OwnGo p e below (T117.setTop (mkF m 36 #[.val (.ref a1), .val (.ref a2), .val (.ref a2)] [])) _
    refine own_back (fun t k => XS.aloadN X117.here hx rfl (hb hby seq_d36) rfl rfl k) ?_
    show OwnGo p e below (T117.setTop (mkF m 37 #[.val (.ref a1), .val (.ref a2), .val (.ref a2)] [(.ref a1)])) _
    obtain ⟨T118, X118, e118, st118⟩ := getF X117 hx hZ hown (host := "") (Or.inl (hw _ (List.mem_of_getElem? (i := 44) rfl))) Via.refl e117 F1 (g := (mkF m 37 #[.val (.ref a1), .val (.ref a2), .val (.ref a2)] [(.ref a1)])) rfl rfl (hb hby seq_d37)
    refine own_back st118 ?_
    show OwnGo p e below (T118.setTop (mkF m 40 #[.val (.ref a1), .val (.ref a2), .val (.ref a2)] [(.ref t1)])) _
    refine own_back (fun t k => XS.aloadN X118.here hx rfl (hb hby seq_d40) rfl rfl k) ?_
    show OwnGo p e below (T118.setTop (mkF m 41 #[.val (.ref a1), .val (.ref a2), .val (.ref a2)] [(.ref a2), (.ref t1)])) _
    obtain ⟨T119, X119, e119, st119⟩ := getF X118 hx hZ hown (host := "") (Or.inl (hw _ (List.mem_of_getElem? (i := 44) rfl))) Via.refl e118 F2 (g := (mkF m 41 #[.val (.ref a1), .val (.ref a2), .val (.ref a2)] [(.ref a2), (.ref t1)])) rfl rfl (hb hby seq_d41)
    refine own_back st119 ?_
    show OwnGo p e below (T119.setTop (mkF m 44 #[.val (.ref a1), .val (.ref a2), .val (.ref a2)] [(.ref t2), (.ref t1)])) _
    obtain ⟨_, _, ⟨T120, L120, k120, n120⟩, -, X120, ⟨Lc120, hQ120, l120, y120, z120⟩, st120⟩ := Jvm.LawKit.callS X119 hx (y := (⟨"java/lang/StringLatin1", "equals", "([B[B)Z"⟩ : MethodName)) hown (mvT hZ (hw _ (List.mem_of_getElem? (i := 45) rfl))) (mvT hZ (hw _ (List.mem_of_getElem? (i := 46) rfl))) (mvT hZ (hw _ (List.mem_of_getElem? (i := 47) rfl))) (mvT hZ (hw _ (List.mem_of_getElem? (i := 48) rfl))) (by decide) (own_backN (W := 0) (rm_leq l Z a0 hw [] t1 t2 k1 k2 bs ds h0 n0 Z0 V1 V2 m1 m2) hZ (hw _ (List.mem_of_getElem? (i := 48) rfl)) (hw _ (List.mem_of_getElem? (i := 47) rfl)) (by decide) (by decide)) (g := (mkF m 44 #[.val (.ref a1), .val (.ref a2), .val (.ref a2)] [(.ref t2), (.ref t1)])) rfl (by rw [hml]; rfl) (argsL := [(.ref t1), (.ref t2)]) (rest := []) (lenOf seq_pd0 rfl) rfl (by show 2 * 0 + _ ≤ _; exact Nat.le_of_eq rfl) (hb hby seq_d44) (fun _ _ => ⟨rfl, e119, Nat.le_of_ble_eq_true rfl, Nat.le_of_ble_eq_true rfl⟩)
    dsimp only [Pt.U, Pt.locs, Pt.cells, Pt.slots] at X120 l120 y120 z120 st120 hQ120
    subst l120 y120 z120
    obtain ⟨rfl, N120q, hh120⟩ := hQ120
    refine own_back st120 ?_
    have N120 := Fr.app N0 N120q
    show OwnGo p e below (T120.setTop (mkF m 47 #[.val (.ref a1), .val (.ref a2), .val (.ref a2)] [(.int (if bs = ds then (1 : Int32) else 0))])) _
    by_cases hc47_121 : (if bs = ds then (1 : Int32) else 0) = (0 : Int32)
    · refine own_back (fun t k => XS.ifYes X120.here hx rfl (pc0 := 47) (pc' := 54) rfl (hb hby seq_d47) rfl (Jvm.Free.XT.i0_eq_t hc47_121) (by decide) (by decide) k) ?_
      show OwnGo p e below (T120.setTop (mkF m 54 #[.val (.ref a1), .val (.ref a2), .val (.ref a2)] [])) _
      refine own_back (fun t k => XS.iconst X120.here hx rfl (hb hby seq_d54) k) ?_
      show OwnGo p e below (T120.setTop (mkF m 55 #[.val (.ref a1), .val (.ref a2), .val (.ref a2)] [(.int (0 : Int32))])) _
      refine own_retN X120 hx Bd.notSynchronized (t := .boolean) (z := (0 : Int32)) Bd.returns (by simp) rfl (hb hby seq_d55) hh120 (Nat.le_of_ble_eq_true rfl) (Nat.le_of_ble_eq_true rfl) ?_
      exact ⟨by rw [own_ite0 hc47_121], N120, rfl⟩
    · refine own_back (fun t k => XS.ifNo X120.here hx rfl (hb hby seq_d47) rfl (Jvm.Free.XT.i0_eq_f hc47_121) k) ?_
      show OwnGo p e below (T120.setTop (mkF m 50 #[.val (.ref a1), .val (.ref a2), .val (.ref a2)] [])) _
      refine own_back (fun t k => XS.iconst X120.here hx rfl (hb hby seq_d50) k) ?_
      show OwnGo p e below (T120.setTop (mkF m 51 #[.val (.ref a1), .val (.ref a2), .val (.ref a2)] [(.int (1 : Int32))])) _
      refine own_back (fun t k => XS.goto X120.here hx rfl (pc0 := 51) (pc' := 55) rfl (hb hby seq_d51) (by decide) (by decide) k) ?_
      show OwnGo p e below (T120.setTop (mkF m 55 #[.val (.ref a1), .val (.ref a2), .val (.ref a2)] [(.int (1 : Int32))])) _
      refine own_retN X120 hx Bd.notSynchronized (t := .boolean) (z := (1 : Int32)) Bd.returns (by simp) rfl (hb hby seq_d55) hh120 (Nat.le_of_ble_eq_true rfl) (Nat.le_of_ble_eq_true rfl) ?_
      exact ⟨by rw [own_ite1 hc47_121], N120, rfl⟩
theorem va_d0 : decode prog_6_method_1_code 0 = .ok (.getstatic 10, 3) := by decide +kernel
theorem va_d3 : decode prog_6_method_1_code 3 = .ok (.invokevirtual 14, 3) := by decide +kernel
theorem va_d6 : decode prog_6_method_1_code 6 = .ok (.checkcast 15, 3) := by decide +kernel
theorem va_d9 : decode prog_6_method_1_code 9 = .ok (.areturn, 1) := by decide +kernel
theorem va_pn : plainName "com/example/indexwright/indexwright/bond/BondVariant" = true := by first | (simp [plainName, overriddenIn]; done) | decide +kernel
theorem va_ef (m : MethodId)  : entryFrame m #[] 0 = mkF m 0 #[] [] := by first | (simp [entryFrame, mkF, argsToLocals, Value.category]; done) | rfl
set_option maxRecDepth 65536 in
set_option maxHeartbeats 40000000 in
theorem rm_val (l : Launch) (Z : State) (a0 : Array Value) (hw : ∀ d ∈ tables_1, d.before a0 Z = true) (ws : List Jvm.Cond) (wP : Addr) (wT : Addr) (wV : Addr) (kV : ClassId) (kP : Addr) (kT : Addr) (cz : Int32) (h0 : Heap) (n0 : Nat) (Z0 : n0 ≤ h0.size) (OL : Old Z n0 h0) (SV : Sta Z Z.heap "com/example/indexwright/indexwright/bond/BondVariant" "$VALUES" "[Lcom/example/indexwright/indexwright/bond/BondVariant;" (.ref wV)) (AV : Arv Z Z.heap wV kV (.object "com/example/indexwright/indexwright/bond/BondVariant") 2 [.ref wP, .ref wT] .null) (EV : Exa Z Z.heap wV "[Lcom/example/indexwright/indexwright/bond/BondVariant;") (FV : ∀ c, Z.heap[wV]? = some c → FitC Z c) (FP : Fld Z Z.heap wP "com/example/indexwright/indexwright/bond/BondVariant" "key" "Ljava/lang/String;" (.ref kP)) (FT : Fld Z Z.heap wT "com/example/indexwright/indexwright/bond/BondVariant" "key" "Ljava/lang/String;" (.ref kT)) (BP : OwnStr Z Z.heap kP [112, 114, 105, 99, 101]) (BT : OwnStr Z Z.heap kT [116, 111, 116, 97, 108]) (SC : Sta Z Z.heap "java/lang/String" "COMPACT_STRINGS" "Z" (.int cz)) (hcz : ¬ cz = 0) :
    MetFree l (⟨"com/example/indexwright/indexwright/bond/BondVariant", "values", "()[Lcom/example/indexwright/indexwright/bond/BondVariant;"⟩ : MethodName) (head1 (Jvm.Cond.code (⟨"com/example/indexwright/indexwright/bond/BondVariant", "values", "()[Lcom/example/indexwright/indexwright/bond/BondVariant;"⟩ : MethodName) prog_6_method_1_code 0 (some (.array (.object "com/example/indexwright/indexwright/bond/BondVariant"))) :: ws) ({ frames := 1, cells := 1, slots := 2, locals := 14 } : Room)) (fun a U => a = #[] ∧ Z.Warmed39 U.vm ∧ U.heap = h0) (fun _ _ _ _ _ => True) (fun _ U o U' => OwnEnd U (fun v h L => ∃ a, v = some (.ref a) ∧ Fr n0 L ∧ Ext h0 h ∧ Arv Z h a kV (.object "com/example/indexwright/indexwright/bond/BondVariant") 2 [.ref wP, .ref wT] .null ∧ h0.size ≤ a) ({ frames := 1, cells := 1, slots := 2, locals := 14 } : Room).cells ({ frames := 1, cells := 1, slots := 2, locals := 14 } : Room).slots o U') := by
  refine MetFree.of_bodySF (plainFor_of_name va_pn) hisR ?_
  intro p e s m args below meth c s₁ Bd hml0 hP hK
  obtain ⟨rfl, hZ, hh⟩ := hP
  have hx := Bd.exec
  have hby := Bd.bytes
  have hml : c.maxLocals = 0 := hml0
  have hown : s.vm.findClass "com/example/indexwright/indexwright/bond/BondVariant" = some m.cls := findClass_of_methodNamed Bd.named
  have hnm := (name_of_methodNamed Bd.named Bd.method).1
  have X0 : Stand p l e ({ frames := 1, cells := 1, slots := 2, locals := 14 } : Room) s m #[] below meth c s₁ [] 0 0 := Stand.of_body Bd
  have e0 : s₁.heap = h0 := by rw [← hh, Bd.state]; rfl
  have N0 := Fr.nil n0
  have KP0 := Keep.refl h0 []
  refine own_go (Q := (OwnEnd s (fun v h L => ∃ a, v = some (.ref a) ∧ Fr n0 L ∧ Ext h0 h ∧ Arv Z h a kV (.object "com/example/indexwright/indexwright/bond/BondVariant") 2 [.ref wP, .ref wT] .null ∧ h0.size ≤ a) ({ frames := 1, cells := 1, slots := 2, locals := 14 } : Room).cells ({ frames := 1, cells := 1, slots := 2, locals := 14 } : Room).slots)) ?_
  refine own_back (fun t k => castTop (va_ef m ) k) ?_
  show OwnGo p e below (s₁.setTop (mkF m 0 #[] [])) _
  obtain ⟨T122, X122, e122, st122⟩ := getS2 X0 hx hZ hown (host := "") (Or.inl (hw _ (List.mem_of_getElem? (i := 18) rfl))) Via.refl e0 (SV.ext OL.2) (g := (mkF m 0 #[] [])) rfl (hb hby va_d0)
  refine own_back st122 ?_
  show OwnGo p e below (T122.setTop (mkF m 3 #[] [(.ref wV)])) _
  obtain ⟨cv, Av, qv, Sv, Mv, Hv, Uv⟩ := id AV
  obtain ⟨T123, h123, X123, e123, E123, A123, EX123, st123⟩ := cloneA X122 hx hZ hown (hw _ (List.mem_of_getElem? (i := 20) rfl)) (hw _ (List.mem_of_getElem? (i := 21) rfl)) (hw _ (List.mem_of_getElem? (i := 25) rfl)) (hw _ (List.mem_of_getElem? (i := 23) rfl)) (hw _ (List.mem_of_getElem? (i := 24) rfl)) (hw _ (List.mem_of_getElem? (i := 26) rfl)) e122 (Av.ext OL.2) (EV.ext OL.2) (FV _ Av.1) (g := (mkF m 3 #[] [(.ref wV)])) rfl (by rw [hml]; rfl) rfl (hb hby va_d3) (by decide) (W := 0) (cap := 2) (by show 2 * 0 + _ ≤ _; exact Nat.le_of_eq rfl) (by decide) (by rw [Sv]; decide) (Nat.le_of_ble_eq_true rfl) (Nat.le_of_ble_eq_true rfl)
  obtain ⟨b123, g123⟩ : ∃ z, z = h0.size := ⟨_, rfl⟩
  have ge124 : n0 ≤ b123 := Nat.le_trans Z0 (Nat.le_of_eq g123.symm)
  have sz125 : h0.size ≤ b123 := Nat.le_trans KP0.1 (Nat.le_of_eq g123.symm)
  rw [← g123] at A123 EX123 st123
  have O126 := OL.ext E123
  have KP127 := KP0.ext E123
  have Zs128 := Nat.le_trans Z0 E123.1
  have V129 : Arv Z h123 b123 kV (.object "com/example/indexwright/indexwright/bond/BondVariant") 2 [.ref wP, .ref wT] .null := ⟨_, A123, qv, Sv, Mv, Hv, Uv⟩
  refine own_back st123 ?_
  show OwnGo p e below (T123.setTop (mkF m 6 #[] [(.ref b123)])) _
  obtain ⟨T130, X130, e130, st130⟩ := castY X123 hx hZ hown (hw _ (List.mem_of_getElem? (i := 29) rfl)) e123 (Ins.self EX123) (g := (mkF m 6 #[] [(.ref b123)])) rfl rfl (hb hby va_d6)
  refine own_back st130 ?_
  show OwnGo p e below (T130.setTop (mkF m 9 #[] [(.ref b123)])) _
  refine own_retA X130 hx Bd.notSynchronized Bd.returns rfl rfl (hb hby va_d9) e130 (Nat.le_of_ble_eq_true rfl) (Nat.le_of_ble_eq_true rfl) ?_
  exact ⟨b123, rfl, N0, own_ext KP127, V129, sz125⟩
theorem ke_d0 : decode prog_6_method_6_code 0 = .ok (.invokestatic 33, 3) := by decide +kernel
theorem ke_d3 : decode prog_6_method_6_code 3 = .ok (.astore_n 0, 1) := by decide +kernel
theorem ke_d4 : decode prog_6_method_6_code 4 = .ok (.aload_n 0, 1) := by decide +kernel
theorem ke_d5 : decode prog_6_method_6_code 5 = .ok (.arraylength, 1) := by decide +kernel
theorem ke_d6 : decode prog_6_method_6_code 6 = .ok (.anewarray 38, 3) := by decide +kernel
theorem ke_d9 : decode prog_6_method_6_code 9 = .ok (.astore_n 1, 1) := by decide +kernel
theorem ke_d10 : decode prog_6_method_6_code 10 = .ok (.iconst 0, 1) := by decide +kernel
theorem ke_d11 : decode prog_6_method_6_code 11 = .ok (.istore_n 2, 1) := by decide +kernel
theorem ke_d12 : decode prog_6_method_6_code 12 = .ok (.iload_n 2, 1) := by decide +kernel
theorem ke_d13 : decode prog_6_method_6_code 13 = .ok (.aload_n 0, 1) := by decide +kernel
theorem ke_d14 : decode prog_6_method_6_code 14 = .ok (.arraylength, 1) := by decide +kernel
theorem ke_d15 : decode prog_6_method_6_code 15 = .ok (.if_icmp .ge 18, 3) := by decide +kernel
theorem ke_d18 : decode prog_6_method_6_code 18 = .ok (.aload_n 1, 1) := by decide +kernel
theorem ke_d19 : decode prog_6_method_6_code 19 = .ok (.iload_n 2, 1) := by decide +kernel
theorem ke_d20 : decode prog_6_method_6_code 20 = .ok (.aload_n 0, 1) := by decide +kernel
theorem ke_d21 : decode prog_6_method_6_code 21 = .ok (.iload_n 2, 1) := by decide +kernel
theorem ke_d22 : decode prog_6_method_6_code 22 = .ok (.aaload, 1) := by decide +kernel
theorem ke_d23 : decode prog_6_method_6_code 23 = .ok (.getfield 29, 3) := by decide +kernel
theorem ke_d26 : decode prog_6_method_6_code 26 = .ok (.aastore, 1) := by decide +kernel
theorem ke_d27 : decode prog_6_method_6_code 27 = .ok (.iinc 2 1, 3) := by decide +kernel
theorem ke_d30 : decode prog_6_method_6_code 30 = .ok (.goto (-18), 3) := by decide +kernel
theorem ke_d33 : decode prog_6_method_6_code 33 = .ok (.aload_n 1, 1) := by decide +kernel
theorem ke_d34 : decode prog_6_method_6_code 34 = .ok (.areturn, 1) := by decide +kernel
theorem ke_pn : plainName "com/example/indexwright/indexwright/bond/BondVariant" = true := by first | (simp [plainName, overriddenIn]; done) | decide +kernel
theorem ke_pd0 : parseMethodDescriptor "()[Lcom/example/indexwright/indexwright/bond/BondVariant;" = some ⟨[], some (.array (.object "com/example/indexwright/indexwright/bond/BondVariant"))⟩ := by decide +kernel
theorem ke_ef (m : MethodId)  : entryFrame m #[] 3 = mkF m 0 #[.unset, .unset, .unset] [] := by first | (simp [entryFrame, mkF, argsToLocals, Value.category]; done) | rfl
set_option maxRecDepth 65536 in
set_option maxHeartbeats 40000000 in
theorem rm_keys (l : Launch) (Z : State) (a0 : Array Value) (hw : ∀ d ∈ tables_1, d.before a0 Z = true) (ws : List Jvm.Cond) (wP : Addr) (wT : Addr) (wV : Addr) (kV : ClassId) (kP : Addr) (kT : Addr) (cz : Int32) (h0 : Heap) (n0 : Nat) (Z0 : n0 ≤ h0.size) (OL : Old Z n0 h0) (SV : Sta Z Z.heap "com/example/indexwright/indexwright/bond/BondVariant" "$VALUES" "[Lcom/example/indexwright/indexwright/bond/BondVariant;" (.ref wV)) (AV : Arv Z Z.heap wV kV (.object "com/example/indexwright/indexwright/bond/BondVariant") 2 [.ref wP, .ref wT] .null) (EV : Exa Z Z.heap wV "[Lcom/example/indexwright/indexwright/bond/BondVariant;") (FV : ∀ c, Z.heap[wV]? = some c → FitC Z c) (FP : Fld Z Z.heap wP "com/example/indexwright/indexwright/bond/BondVariant" "key" "Ljava/lang/String;" (.ref kP)) (FT : Fld Z Z.heap wT "com/example/indexwright/indexwright/bond/BondVariant" "key" "Ljava/lang/String;" (.ref kT)) (BP : OwnStr Z Z.heap kP [112, 114, 105, 99, 101]) (BT : OwnStr Z Z.heap kT [116, 111, 116, 97, 108]) (SC : Sta Z Z.heap "java/lang/String" "COMPACT_STRINGS" "Z" (.int cz)) (hcz : ¬ cz = 0) :
    MetFree l (⟨"com/example/indexwright/indexwright/bond/BondVariant", "keys", "()[Ljava/lang/String;"⟩ : MethodName) (head1 (Jvm.Cond.code (⟨"com/example/indexwright/indexwright/bond/BondVariant", "keys", "()[Ljava/lang/String;"⟩ : MethodName) prog_6_method_6_code 3 (some (.array (.object "java/lang/String"))) :: ws) ({ frames := 2, cells := 2, slots := 4, locals := 30 } : Room)) (fun a U => a = #[] ∧ Z.Warmed39 U.vm ∧ U.heap = h0) (fun _ _ _ _ _ => True) (fun _ U o U' => OwnEnd U (fun v h L => ∃ a k, v = some (.ref a) ∧ Fr n0 L ∧ Ext h0 h ∧ Arv Z h a k (.object "java/lang/String") 2 [.ref kP, .ref kT] .null ∧ h0.size ≤ a) ({ frames := 2, cells := 2, slots := 4, locals := 30 } : Room).cells ({ frames := 2, cells := 2, slots := 4, locals := 30 } : Room).slots o U') := by
  refine MetFree.of_bodySF (plainFor_of_name ke_pn) hisR ?_
  intro p e s m args below meth c s₁ Bd hml0 hP hK
  obtain ⟨rfl, hZ, hh⟩ := hP
  have hx := Bd.exec
  have hby := Bd.bytes
  have hml : c.maxLocals = 3 := hml0
  have hown : s.vm.findClass "com/example/indexwright/indexwright/bond/BondVariant" = some m.cls := findClass_of_methodNamed Bd.named
  have hnm := (name_of_methodNamed Bd.named Bd.method).1
  have X0 : Stand p l e ({ frames := 2, cells := 2, slots := 4, locals := 30 } : Room) s m #[] below meth c s₁ [] 0 0 := Stand.of_body Bd
  have e0 : s₁.heap = h0 := by rw [← hh, Bd.state]; rfl
  have N0 := Fr.nil n0
  have KP0 := Keep.refl h0 []
  refine own_go (Q := (OwnEnd s (fun v h L => ∃ a k, v = some (.ref a) ∧ Fr n0 L ∧ Ext h0 h ∧ Arv Z h a k (.object "java/lang/String") 2 [.ref kP, .ref kT] .null ∧ h0.size ≤ a) ({ frames := 2, cells := 2, slots := 4, locals := 30 } : Room).cells ({ frames := 2, cells := 2, slots := 4, locals := 30 } : Room).slots)) ?_
  refine own_back (fun t k => castTop (ke_ef m ) k) ?_
  show OwnGo p e below (s₁.setTop (mkF m 0 #[.unset, .unset, .unset] [])) _
  obtain ⟨_, _, ⟨T131, L131, k131, n131⟩, -, X131, ⟨Lc131, hQ131, l131, y131, z131⟩, st131⟩ := Jvm.LawKit.callS X0 hx (y := (⟨"com/example/indexwright/indexwright/bond/BondVariant", "values", "()[Lcom/example/indexwright/indexwright/bond/BondVariant;"⟩ : MethodName)) hown (mvT hZ (hw _ (List.mem_of_getElem? (i := 15) rfl))) (mvT hZ (hw _ (List.mem_of_getElem? (i := 16) rfl))) (mvT hZ (hw _ (List.mem_of_getElem? (i := 1) rfl))) (mvT hZ (hw _ (List.mem_of_getElem? (i := 17) rfl))) (by decide) (own_backN (W := 0) (rm_val l Z a0 hw [] wP wT wV kV kP kT cz h0 n0 Z0 OL SV AV EV FV FP FT BP BT SC hcz) hZ (hw _ (List.mem_of_getElem? (i := 17) rfl)) (hw _ (List.mem_of_getElem? (i := 1) rfl)) (by decide) (by decide)) (g := (mkF m 0 #[.unset, .unset, .unset] [])) rfl (by rw [hml]; rfl) (argsL := []) (rest := []) (lenOf ke_pd0 rfl) rfl (by show 2 * 0 + _ ≤ _; exact Nat.le_of_eq rfl) (hb hby ke_d0) (fun _ _ => ⟨rfl, e0, Nat.le_of_ble_eq_true rfl, Nat.le_of_ble_eq_true rfl⟩)
  dsimp only [Pt.U, Pt.locs, Pt.cells, Pt.slots] at X131 l131 y131 z131 st131 hQ131
  subst l131 y131 z131
  obtain ⟨ab131, rfl, N131q, E131, V131, s131⟩ := hQ131
  refine own_back st131 ?_
  have N131 := Fr.app N0 N131q
  have O132 := OL.ext E131
  have KP133 := KP0.ext E131
  have Zs134 := Nat.le_trans Z0 E131.1
  have ge135 := Nat.le_trans Z0 s131
  have sz136 := Nat.le_trans KP0.1 s131
  show OwnGo p e below (T131.setTop (mkF m 3 #[.unset, .unset, .unset] [(.ref ab131)])) _
  refine own_back (fun t k => XS.astoreN X131.here hx rfl (hb hby ke_d3) rfl rfl (l' := #[.val (.ref ab131), .unset, .unset]) rfl k) ?_
  show OwnGo p e below (T131.setTop (mkF m 4 #[.val (.ref ab131), .unset, .unset] [])) _
  refine own_back (fun t k => XS.aloadN X131.here hx rfl (hb hby ke_d4) rfl rfl k) ?_
  show OwnGo p e below (T131.setTop (mkF m 5 #[.val (.ref ab131), .unset, .unset] [(.ref ab131)])) _
  obtain ⟨c137, A137, q137, S137, M137, H137, U137⟩ := id V131
  refine own_back (fun t k => X131.arraylength hx (own_hat rfl A137.1) (State.isArrayOf_alike hZ.alike A137.2.1) (g := (mkF m 5 #[.val (.ref ab131), .unset, .unset] [(.ref ab131)])) rfl rfl (hb hby ke_d5) t k) ?_
  rw [len_of S137 M137]
  show OwnGo p e below (T131.setTop (mkF m 6 #[.val (.ref ab131), .unset, .unset] [(.int (2 : Int32))])) _
  obtain ⟨T138, h138, k138, X138, e138, E138, A138, O138, st138⟩ := newR X131 hx hZ hown (hw _ (List.mem_of_getElem? (i := 31) rfl)) (hw _ (List.mem_of_getElem? (i := 32) rfl)) rfl (g := (mkF m 6 #[.val (.ref ab131), .unset, .unset] [(.int (2 : Int32))])) rfl (hb hby ke_d6) rfl (by decide) (cap := 2) (by decide) (by decide) (Nat.le_of_ble_eq_true rfl) (Nat.le_of_ble_eq_true rfl)
  obtain ⟨b138, g138⟩ : ∃ z, z = T131.heap.size := ⟨_, rfl⟩
  have ge139 : n0 ≤ b138 := Nat.le_trans Zs134 (Nat.le_of_eq g138.symm)
  have sz140 : h0.size ≤ b138 := Nat.le_trans KP133.1 (Nat.le_of_eq g138.symm)
  rw [← g138] at A138 st138
  have O141 := O132.ext E138
  have KP142 := KP133.ext E138
  have Zs143 := Nat.le_trans Zs134 E138.1
  have f144 := V131.ext E138
  have V145 : Arv Z h138 b138 k138 (.object "java/lang/String") (2 : Int32) [.null, .null] .null := (Arv.new A138 (by decide)).pad (pad_rep [] .null 2)
  refine own_back st138 ?_
  show OwnGo p e below (T138.setTop (mkF m 9 #[.val (.ref ab131), .unset, .unset] [(.ref b138)])) _
  refine own_back (fun t k => XS.astoreN X138.here hx rfl (hb hby ke_d9) rfl rfl (l' := #[.val (.ref ab131), .val (.ref b138), .unset]) rfl k) ?_
  show OwnGo p e below (T138.setTop (mkF m 10 #[.val (.ref ab131), .val (.ref b138), .unset] [])) _
  refine own_back (fun t k => XS.iconst X138.here hx rfl (hb hby ke_d10) k) ?_
  show OwnGo p e below (T138.setTop (mkF m 11 #[.val (.ref ab131), .val (.ref b138), .unset] [(.int (0 : Int32))])) _
  refine own_back (fun t k => XS.istoreN X138.here hx rfl (hb hby ke_d11) rfl (l' := #[.val (.ref ab131), .val (.ref b138), .val (.int (0 : Int32))]) rfl k) ?_
  show OwnGo p e below (T138.setTop (mkF m 12 #[.val (.ref ab131), .val (.ref b138), .val (.int (0 : Int32))] [])) _
  refine own_back (fun t k => XS.iloadN X138.here hx rfl (hb hby ke_d12) rfl k) ?_
  show OwnGo p e below (T138.setTop (mkF m 13 #[.val (.ref ab131), .val (.ref b138), .val (.int (0 : Int32))] [(.int (0 : Int32))])) _
  refine own_back (fun t k => XS.aloadN X138.here hx rfl (hb hby ke_d13) rfl rfl k) ?_
  show OwnGo p e below (T138.setTop (mkF m 14 #[.val (.ref ab131), .val (.ref b138), .val (.int (0 : Int32))] [(.ref ab131), (.int (0 : Int32))])) _
  obtain ⟨c146, A146, q146, S146, M146, H146, U146⟩ := id f144
  refine own_back (fun t k => X138.arraylength hx (own_hat e138 A146.1) (State.isArrayOf_alike hZ.alike A146.2.1) (g := (mkF m 14 #[.val (.ref ab131), .val (.ref b138), .val (.int (0 : Int32))] [(.ref ab131), (.int (0 : Int32))])) rfl rfl (hb hby ke_d14) t k) ?_
  rw [len_of S146 M146]
  show OwnGo p e below (T138.setTop (mkF m 15 #[.val (.ref ab131), .val (.ref b138), .val (.int (0 : Int32))] [(.int (2 : Int32)), (.int (0 : Int32))])) _
  refine own_back (fun t k => XS.icmpNo X138.here hx rfl (hb hby ke_d15) rfl (Jvm.Free.XT.ii_ge_f (by decide)) k) ?_
  show OwnGo p e below (T138.setTop (mkF m 18 #[.val (.ref ab131), .val (.ref b138), .val (.int (0 : Int32))] [])) _
  refine own_back (fun t k => XS.aloadN X138.here hx rfl (hb hby ke_d18) rfl rfl k) ?_
  show OwnGo p e below (T138.setTop (mkF m 19 #[.val (.ref ab131), .val (.ref b138), .val (.int (0 : Int32))] [(.ref b138)])) _
  refine own_back (fun t k => XS.iloadN X138.here hx rfl (hb hby ke_d19) rfl k) ?_
  show OwnGo p e below (T138.setTop (mkF m 20 #[.val (.ref ab131), .val (.ref b138), .val (.int (0 : Int32))] [(.int (0 : Int32)), (.ref b138)])) _
  refine own_back (fun t k => XS.aloadN X138.here hx rfl (hb hby ke_d20) rfl rfl k) ?_
  show OwnGo p e below (T138.setTop (mkF m 21 #[.val (.ref ab131), .val (.ref b138), .val (.int (0 : Int32))] [(.ref ab131), (.int (0 : Int32)), (.ref b138)])) _
  refine own_back (fun t k => XS.iloadN X138.here hx rfl (hb hby ke_d21) rfl k) ?_
  show OwnGo p e below (T138.setTop (mkF m 22 #[.val (.ref ab131), .val (.ref b138), .val (.int (0 : Int32))] [(.int (0 : Int32)), (.ref ab131), (.int (0 : Int32)), (.ref b138)])) _
  obtain ⟨c147, A147, q147, S147, M147, H147, U147⟩ := id f144
  have ib148 : ¬ ((0 : Int32) < 0 ∨ c147.slots.size ≤ ((0 : Int32)).toNatClampNeg) := (inb_of S147 ⟨by decide, by decide⟩)
  refine own_back (fun t k => X138.aaload hx (j := (0 : Int32)) (v := (.ref wP)) (own_hat e138 A147.1) (State.isArrayOf_alike hZ.alike A147.2.1) rfl A147.2.2 ib148 (H147.at ib148 rfl) (g := (mkF m 22 #[.val (.ref ab131), .val (.ref b138), .val (.int (0 : Int32))] [(.int (0 : Int32)), (.ref ab131), (.int (0 : Int32)), (.ref b138)])) rfl rfl (hb hby ke_d22) t k) ?_
  show OwnGo p e below (T138.setTop (mkF m 23 #[.val (.ref ab131), .val (.ref b138), .val (.int (0 : Int32))] [(.ref wP), (.int (0 : Int32)), (.ref b138)])) _
  obtain ⟨T149, X149, e149, st149⟩ := getF X138 hx hZ hown (host := "") (Or.inl (hw _ (List.mem_of_getElem? (i := 33) rfl))) Via.refl e138 (FP.ext O141.2) (g := (mkF m 23 #[.val (.ref ab131), .val (.ref b138), .val (.int (0 : Int32))] [(.ref wP), (.int (0 : Int32)), (.ref b138)])) rfl rfl (hb hby ke_d23)
  refine own_back st149 ?_
  show OwnGo p e below (T149.setTop (mkF m 26 #[.val (.ref ab131), .val (.ref b138), .val (.int (0 : Int32))] [(.ref kP), (.int (0 : Int32)), (.ref b138)])) _
  obtain ⟨c150, A150, q150, S150, M150, H150, U150⟩ := id V145
  obtain ⟨T151, h151, X151, e151, W151, st151⟩ := stR X149 hx hZ e149 A150 (j := (0 : Int32)) (inb_of S150 ⟨by decide, by decide⟩) rfl (Sto.ofV A150 q150 O138 (Ins.self (BP.ext O141.2).exa)) (g := (mkF m 26 #[.val (.ref ab131), .val (.ref b138), .val (.int (0 : Int32))] [(.ref kP), (.int (0 : Int32)), (.ref b138)])) rfl rfl (hb hby ke_d26)
  have O152 := O141.wr W151 ge139
  have KP153 := KP142.wr W151 (Or.inr sz140)
  have Zs154 := Nat.le_trans Zs143 (Keep.of_wr W151).1
  have f155 := f144.other W151 (Nat.ne_of_lt (Nat.lt_of_lt_of_le V131.lt (Nat.le_of_eq g138.symm)))
  have V156 : Arv Z h151 b138 k138 (.object "java/lang/String") (2 : Int32) [(.ref kP), .null] .null := Arv.set A150 q150 S150 M150 H150 U150 rfl W151 0 rfl (Nat.le_of_ble_eq_true rfl)
  have N157 := Fr.snoc X151 N131 ge139
  refine own_back st151 ?_
  show OwnGo p e below (T151.setTop (mkF m 27 #[.val (.ref ab131), .val (.ref b138), .val (.int (0 : Int32))] [])) _
  refine own_back (fun t k => XS.iinc X151.here hx rfl (hb hby ke_d27) rfl (l' := #[.val (.ref ab131), .val (.ref b138), .val (.int (1 : Int32))]) rfl k) ?_
  show OwnGo p e below (T151.setTop (mkF m 30 #[.val (.ref ab131), .val (.ref b138), .val (.int (1 : Int32))] [])) _
  refine own_back (fun t k => XS.goto X151.here hx rfl (pc0 := 30) (pc' := 12) rfl (hb hby ke_d30) (by decide) (by decide) k) ?_
  show OwnGo p e below (T151.setTop (mkF m 12 #[.val (.ref ab131), .val (.ref b138), .val (.int (1 : Int32))] [])) _
  refine own_back (fun t k => XS.iloadN X151.here hx rfl (hb hby ke_d12) rfl k) ?_
  show OwnGo p e below (T151.setTop (mkF m 13 #[.val (.ref ab131), .val (.ref b138), .val (.int (1 : Int32))] [(.int (1 : Int32))])) _
  refine own_back (fun t k => XS.aloadN X151.here hx rfl (hb hby ke_d13) rfl rfl k) ?_
  show OwnGo p e below (T151.setTop (mkF m 14 #[.val (.ref ab131), .val (.ref b138), .val (.int (1 : Int32))] [(.ref ab131), (.int (1 : Int32))])) _
  obtain ⟨c158, A158, q158, S158, M158, H158, U158⟩ := id f155
  refine own_back (fun t k => X151.arraylength hx (own_hat e151 A158.1) (State.isArrayOf_alike hZ.alike A158.2.1) (g := (mkF m 14 #[.val (.ref ab131), .val (.ref b138), .val (.int (1 : Int32))] [(.ref ab131), (.int (1 : Int32))])) rfl rfl (hb hby ke_d14) t k) ?_
  rw [len_of S158 M158]
  show OwnGo p e below (T151.setTop (mkF m 15 #[.val (.ref ab131), .val (.ref b138), .val (.int (1 : Int32))] [(.int (2 : Int32)), (.int (1 : Int32))])) _
  refine own_back (fun t k => XS.icmpNo X151.here hx rfl (hb hby ke_d15) rfl (Jvm.Free.XT.ii_ge_f (by decide)) k) ?_
  show OwnGo p e below (T151.setTop (mkF m 18 #[.val (.ref ab131), .val (.ref b138), .val (.int (1 : Int32))] [])) _
  refine own_back (fun t k => XS.aloadN X151.here hx rfl (hb hby ke_d18) rfl rfl k) ?_
  show OwnGo p e below (T151.setTop (mkF m 19 #[.val (.ref ab131), .val (.ref b138), .val (.int (1 : Int32))] [(.ref b138)])) _
  refine own_back (fun t k => XS.iloadN X151.here hx rfl (hb hby ke_d19) rfl k) ?_
  show OwnGo p e below (T151.setTop (mkF m 20 #[.val (.ref ab131), .val (.ref b138), .val (.int (1 : Int32))] [(.int (1 : Int32)), (.ref b138)])) _
  refine own_back (fun t k => XS.aloadN X151.here hx rfl (hb hby ke_d20) rfl rfl k) ?_
  show OwnGo p e below (T151.setTop (mkF m 21 #[.val (.ref ab131), .val (.ref b138), .val (.int (1 : Int32))] [(.ref ab131), (.int (1 : Int32)), (.ref b138)])) _
  refine own_back (fun t k => XS.iloadN X151.here hx rfl (hb hby ke_d21) rfl k) ?_
  show OwnGo p e below (T151.setTop (mkF m 22 #[.val (.ref ab131), .val (.ref b138), .val (.int (1 : Int32))] [(.int (1 : Int32)), (.ref ab131), (.int (1 : Int32)), (.ref b138)])) _
  obtain ⟨c159, A159, q159, S159, M159, H159, U159⟩ := id f155
  have ib160 : ¬ ((1 : Int32) < 0 ∨ c159.slots.size ≤ ((1 : Int32)).toNatClampNeg) := (inb_of S159 ⟨by decide, by decide⟩)
  refine own_back (fun t k => X151.aaload hx (j := (1 : Int32)) (v := (.ref wT)) (own_hat e151 A159.1) (State.isArrayOf_alike hZ.alike A159.2.1) rfl A159.2.2 ib160 (H159.at ib160 rfl) (g := (mkF m 22 #[.val (.ref ab131), .val (.ref b138), .val (.int (1 : Int32))] [(.int (1 : Int32)), (.ref ab131), (.int (1 : Int32)), (.ref b138)])) rfl rfl (hb hby ke_d22) t k) ?_
  show OwnGo p e below (T151.setTop (mkF m 23 #[.val (.ref ab131), .val (.ref b138), .val (.int (1 : Int32))] [(.ref wT), (.int (1 : Int32)), (.ref b138)])) _
  obtain ⟨T161, X161, e161, st161⟩ := getF X151 hx hZ hown (host := "") (Or.inl (hw _ (List.mem_of_getElem? (i := 33) rfl))) Via.refl e151 (FT.ext O152.2) (g := (mkF m 23 #[.val (.ref ab131), .val (.ref b138), .val (.int (1 : Int32))] [(.ref wT), (.int (1 : Int32)), (.ref b138)])) rfl rfl (hb hby ke_d23)
  refine own_back st161 ?_
  show OwnGo p e below (T161.setTop (mkF m 26 #[.val (.ref ab131), .val (.ref b138), .val (.int (1 : Int32))] [(.ref kT), (.int (1 : Int32)), (.ref b138)])) _
  obtain ⟨c162, A162, q162, S162, M162, H162, U162⟩ := id V156
  obtain ⟨T163, h163, X163, e163, W163, st163⟩ := stR X161 hx hZ e161 A162 (j := (1 : Int32)) (inb_of S162 ⟨by decide, by decide⟩) rfl (Sto.ofV A162 q162 O138 (Ins.self (BT.ext O152.2).exa)) (g := (mkF m 26 #[.val (.ref ab131), .val (.ref b138), .val (.int (1 : Int32))] [(.ref kT), (.int (1 : Int32)), (.ref b138)])) rfl rfl (hb hby ke_d26)
  have O164 := O152.wr W163 ge139
  have KP165 := KP153.wr W163 (Or.inr sz140)
  have Zs166 := Nat.le_trans Zs154 (Keep.of_wr W163).1
  have f167 := f155.other W163 (Nat.ne_of_lt (Nat.lt_of_lt_of_le V131.lt (Nat.le_of_eq g138.symm)))
  have V168 : Arv Z h163 b138 k138 (.object "java/lang/String") (2 : Int32) [(.ref kP), (.ref kT)] .null := Arv.set A162 q162 S162 M162 H162 U162 rfl W163 1 rfl (Nat.le_of_ble_eq_true rfl)
  have N169 := Fr.snoc X163 N157 ge139
  refine own_back st163 ?_
  show OwnGo p e below (T163.setTop (mkF m 27 #[.val (.ref ab131), .val (.ref b138), .val (.int (1 : Int32))] [])) _
  refine own_back (fun t k => XS.iinc X163.here hx rfl (hb hby ke_d27) rfl (l' := #[.val (.ref ab131), .val (.ref b138), .val (.int (2 : Int32))]) rfl k) ?_
  show OwnGo p e below (T163.setTop (mkF m 30 #[.val (.ref ab131), .val (.ref b138), .val (.int (2 : Int32))] [])) _
  refine own_back (fun t k => XS.goto X163.here hx rfl (pc0 := 30) (pc' := 12) rfl (hb hby ke_d30) (by decide) (by decide) k) ?_
  show OwnGo p e below (T163.setTop (mkF m 12 #[.val (.ref ab131), .val (.ref b138), .val (.int (2 : Int32))] [])) _
  refine own_back (fun t k => XS.iloadN X163.here hx rfl (hb hby ke_d12) rfl k) ?_
  show OwnGo p e below (T163.setTop (mkF m 13 #[.val (.ref ab131), .val (.ref b138), .val (.int (2 : Int32))] [(.int (2 : Int32))])) _
  refine own_back (fun t k => XS.aloadN X163.here hx rfl (hb hby ke_d13) rfl rfl k) ?_
  show OwnGo p e below (T163.setTop (mkF m 14 #[.val (.ref ab131), .val (.ref b138), .val (.int (2 : Int32))] [(.ref ab131), (.int (2 : Int32))])) _
  obtain ⟨c170, A170, q170, S170, M170, H170, U170⟩ := id f167
  refine own_back (fun t k => X163.arraylength hx (own_hat e163 A170.1) (State.isArrayOf_alike hZ.alike A170.2.1) (g := (mkF m 14 #[.val (.ref ab131), .val (.ref b138), .val (.int (2 : Int32))] [(.ref ab131), (.int (2 : Int32))])) rfl rfl (hb hby ke_d14) t k) ?_
  rw [len_of S170 M170]
  show OwnGo p e below (T163.setTop (mkF m 15 #[.val (.ref ab131), .val (.ref b138), .val (.int (2 : Int32))] [(.int (2 : Int32)), (.int (2 : Int32))])) _
  refine own_back (fun t k => XS.icmpYes X163.here hx rfl (pc0 := 15) (pc' := 33) rfl (hb hby ke_d15) rfl (Jvm.Free.XT.ii_ge_t (by decide)) (by decide) (by decide) k) ?_
  show OwnGo p e below (T163.setTop (mkF m 33 #[.val (.ref ab131), .val (.ref b138), .val (.int (2 : Int32))] [])) _
  refine own_back (fun t k => XS.aloadN X163.here hx rfl (hb hby ke_d33) rfl rfl k) ?_
  show OwnGo p e below (T163.setTop (mkF m 34 #[.val (.ref ab131), .val (.ref b138), .val (.int (2 : Int32))] [(.ref b138)])) _
  refine own_retA X163 hx Bd.notSynchronized Bd.returns rfl rfl (hb hby ke_d34) e163 (Nat.le_of_ble_eq_true rfl) (Nat.le_of_ble_eq_true rfl) ?_
  exact ⟨b138, _, rfl, N169, own_ext KP165, V168, sz140⟩
theorem ky_d0 : decode prog_6_method_4_code 0 = .ok (.aload_n 0, 1) := by decide +kernel
theorem ky_d1 : decode prog_6_method_4_code 1 = .ok (.getfield 29, 3) := by decide +kernel
theorem ky_d4 : decode prog_6_method_4_code 4 = .ok (.areturn, 1) := by decide +kernel
theorem ky_pn : plainName "com/example/indexwright/indexwright/bond/BondVariant" = true := by first | (simp [plainName, overriddenIn]; done) | decide +kernel
theorem ky_ef (m : MethodId) (x0 : Addr) : entryFrame m #[(.ref x0)] 1 = mkF m 0 #[.val (.ref x0)] [] := by first | (simp [entryFrame, mkF, argsToLocals, Value.category]; done) | rfl
set_option maxRecDepth 65536 in
set_option maxHeartbeats 40000000 in
theorem rm_key (l : Launch) (Z : State) (a0 : Array Value) (hw : ∀ d ∈ tables_1, d.before a0 Z = true) (ws : List Jvm.Cond) (a1 : Addr) (b1 : Addr) (h0 : Heap) (n0 : Nat) (Z0 : n0 ≤ h0.size) (F1 : Fld Z h0 a1 "com/example/indexwright/indexwright/bond/BondVariant" "key" "Ljava/lang/String;" (.ref b1)) :
    MetFree l (⟨"com/example/indexwright/indexwright/bond/BondVariant", "key", "()Ljava/lang/String;"⟩ : MethodName) (head1 (Jvm.Cond.code (⟨"com/example/indexwright/indexwright/bond/BondVariant", "key", "()Ljava/lang/String;"⟩ : MethodName) prog_6_method_4_code 1 (some (.object "java/lang/String")) :: ws) ({ frames := 0, cells := 0, slots := 0, locals := 0 } : Room)) (fun a U => a = #[(.ref a1)] ∧ Z.Warmed39 U.vm ∧ U.heap = h0) (fun _ _ _ _ _ => True) (fun _ U o U' => OwnEnd U (fun v h L => v = some (.ref b1) ∧ Fr n0 L ∧ h = h0) ({ frames := 0, cells := 0, slots := 0, locals := 0 } : Room).cells ({ frames := 0, cells := 0, slots := 0, locals := 0 } : Room).slots o U') := by
  refine MetFree.of_bodySF (plainFor_of_name ky_pn) hisR ?_
  intro p e s m args below meth c s₁ Bd hml0 hP hK
  obtain ⟨rfl, hZ, hh⟩ := hP
  have hx := Bd.exec
  have hby := Bd.bytes
  have hml : c.maxLocals = 1 := hml0
  have hown : s.vm.findClass "com/example/indexwright/indexwright/bond/BondVariant" = some m.cls := findClass_of_methodNamed Bd.named
  have hnm := (name_of_methodNamed Bd.named Bd.method).1
  have X0 : Stand p l e ({ frames := 0, cells := 0, slots := 0, locals := 0 } : Room) s m #[(.ref a1)] below meth c s₁ [] 0 0 := Stand.of_body Bd
  have e0 : s₁.heap = h0 := by rw [← hh, Bd.state]; rfl
  have N0 := Fr.nil n0
  have KP0 := Keep.refl h0 []
  refine own_go (Q := (OwnEnd s (fun v h L => v = some (.ref b1) ∧ Fr n0 L ∧ h = h0) ({ frames := 0, cells := 0, slots := 0, locals := 0 } : Room).cells ({ frames := 0, cells := 0, slots := 0, locals := 0 } : Room).slots)) ?_
  refine own_back (fun t k => castTop (ky_ef m a1) k) ?_
  show OwnGo p e below (s₁.setTop (mkF m 0 #[.val (.ref a1)] [])) _
  refine own_back (fun t k => XS.aloadN X0.here hx rfl (hb hby ky_d0) rfl rfl k) ?_
  show OwnGo p e below (s₁.setTop (mkF m 1 #[.val (.ref a1)] [(.ref a1)])) _
  obtain ⟨T171, X171, e171, st171⟩ := getF X0 hx hZ hown (host := "") (Or.inl (hw _ (List.mem_of_getElem? (i := 33) rfl))) Via.refl e0 F1 (g := (mkF m 1 #[.val (.ref a1)] [(.ref a1)])) rfl rfl (hb hby ky_d1)
  refine own_back st171 ?_
  show OwnGo p e below (T171.setTop (mkF m 4 #[.val (.ref a1)] [(.ref b1)])) _
  refine own_retA X171 hx Bd.notSynchronized Bd.returns rfl rfl (hb hby ky_d4) e171 (Nat.le_of_ble_eq_true rfl) (Nat.le_of_ble_eq_true rfl) ?_
  exact ⟨rfl, N0, rfl⟩
theorem of_d0 : decode prog_6_method_5_code 0 = .ok (.invokestatic 33, 3) := by decide +kernel
theorem of_d3 : decode prog_6_method_5_code 3 = .ok (.astore_n 1, 1) := by decide +kernel
theorem of_d4 : decode prog_6_method_5_code 4 = .ok (.aload_n 1, 1) := by decide +kernel
theorem of_d5 : decode prog_6_method_5_code 5 = .ok (.arraylength, 1) := by decide +kernel
theorem of_d6 : decode prog_6_method_5_code 6 = .ok (.istore_n 2, 1) := by decide +kernel
theorem of_d7 : decode prog_6_method_5_code 7 = .ok (.iconst 0, 1) := by decide +kernel
theorem of_d8 : decode prog_6_method_5_code 8 = .ok (.istore_n 3, 1) := by decide +kernel
theorem of_d9 : decode prog_6_method_5_code 9 = .ok (.iload_n 3, 1) := by decide +kernel
theorem of_d10 : decode prog_6_method_5_code 10 = .ok (.iload_n 2, 1) := by decide +kernel
theorem of_d11 : decode prog_6_method_5_code 11 = .ok (.if_icmp .ge 29, 3) := by decide +kernel
theorem of_d14 : decode prog_6_method_5_code 14 = .ok (.aload_n 1, 1) := by decide +kernel
theorem of_d15 : decode prog_6_method_5_code 15 = .ok (.iload_n 3, 1) := by decide +kernel
theorem of_d16 : decode prog_6_method_5_code 16 = .ok (.aaload, 1) := by decide +kernel
theorem of_d17 : decode prog_6_method_5_code 17 = .ok (.astore 4, 2) := by decide +kernel
theorem of_d19 : decode prog_6_method_5_code 19 = .ok (.aload 4, 2) := by decide +kernel
theorem of_d21 : decode prog_6_method_5_code 21 = .ok (.getfield 29, 3) := by decide +kernel
theorem of_d24 : decode prog_6_method_5_code 24 = .ok (.aload_n 0, 1) := by decide +kernel
theorem of_d25 : decode prog_6_method_5_code 25 = .ok (.invokevirtual 37, 3) := by decide +kernel
theorem of_d28 : decode prog_6_method_5_code 28 = .ok (.ifCond .eq 6, 3) := by decide +kernel
theorem of_d31 : decode prog_6_method_5_code 31 = .ok (.aload 4, 2) := by decide +kernel
theorem of_d33 : decode prog_6_method_5_code 33 = .ok (.areturn, 1) := by decide +kernel
theorem of_d34 : decode prog_6_method_5_code 34 = .ok (.iinc 3 1, 3) := by decide +kernel
theorem of_d37 : decode prog_6_method_5_code 37 = .ok (.goto (-28), 3) := by decide +kernel
theorem of_d40 : decode prog_6_method_5_code 40 = .ok (.aconst_null, 1) := by decide +kernel
theorem of_d41 : decode prog_6_method_5_code 41 = .ok (.areturn, 1) := by decide +kernel
theorem of_pn : plainName "com/example/indexwright/indexwright/bond/BondVariant" = true := by first | (simp [plainName, overriddenIn]; done) | decide +kernel
theorem of_pd0 : parseMethodDescriptor "()[Lcom/example/indexwright/indexwright/bond/BondVariant;" = some ⟨[], some (.array (.object "com/example/indexwright/indexwright/bond/BondVariant"))⟩ := by decide +kernel
theorem of_pd1 : parseMethodDescriptor "(Ljava/lang/Object;)Z" = some ⟨[(.object "java/lang/Object")], some .boolean⟩ := by decide +kernel
theorem of_ef (m : MethodId) (x0 : Addr) : entryFrame m #[(.ref x0)] 5 = mkF m 0 #[.val (.ref x0), .unset, .unset, .unset, .unset] [] := by first | (simp [entryFrame, mkF, argsToLocals, Value.category]; done) | rfl
set_option maxRecDepth 65536 in
set_option maxHeartbeats 40000000 in
theorem rm_of (l : Launch) (Z : State) (a0 : Array Value) (hw : ∀ d ∈ tables_1, d.before a0 Z = true) (ws : List Jvm.Cond) (a1 : Addr) (bs : List Int32) (wP : Addr) (wT : Addr) (wV : Addr) (kV : ClassId) (kP : Addr) (kT : Addr) (cz : Int32) (h0 : Heap) (n0 : Nat) (Z0 : n0 ≤ h0.size) (OL : Old Z n0 h0) (B1 : OwnStr Z h0 a1 bs) (SV : Sta Z Z.heap "com/example/indexwright/indexwright/bond/BondVariant" "$VALUES" "[Lcom/example/indexwright/indexwright/bond/BondVariant;" (.ref wV)) (AV : Arv Z Z.heap wV kV (.object "com/example/indexwright/indexwright/bond/BondVariant") 2 [.ref wP, .ref wT] .null) (EV : Exa Z Z.heap wV "[Lcom/example/indexwright/indexwright/bond/BondVariant;") (FV : ∀ c, Z.heap[wV]? = some c → FitC Z c) (FP : Fld Z Z.heap wP "com/example/indexwright/indexwright/bond/BondVariant" "key" "Ljava/lang/String;" (.ref kP)) (FT : Fld Z Z.heap wT "com/example/indexwright/indexwright/bond/BondVariant" "key" "Ljava/lang/String;" (.ref kT)) (BP : OwnStr Z Z.heap kP [112, 114, 105, 99, 101]) (BT : OwnStr Z Z.heap kT [116, 111, 116, 97, 108]) (SC : Sta Z Z.heap "java/lang/String" "COMPACT_STRINGS" "Z" (.int cz)) (hcz : ¬ cz = 0) :
    MetFree l (⟨"com/example/indexwright/indexwright/bond/BondVariant", "of", "(Ljava/lang/String;)Lcom/example/indexwright/indexwright/bond/BondVariant;"⟩ : MethodName) (head1 (Jvm.Cond.code (⟨"com/example/indexwright/indexwright/bond/BondVariant", "of", "(Ljava/lang/String;)Lcom/example/indexwright/indexwright/bond/BondVariant;"⟩ : MethodName) prog_6_method_5_code 5 (some (.object "com/example/indexwright/indexwright/bond/BondVariant")) :: ws) ({ frames := 3, cells := 1, slots := 2, locals := 50 } : Room)) (fun a U => a = #[(.ref a1)] ∧ Z.Warmed39 U.vm ∧ U.heap = h0) (fun _ _ _ _ _ => True) (fun _ U o U' => OwnEnd U (fun v h L => v = some (if [112, 114, 105, 99, 101] = bs then .ref wP else if [116, 111, 116, 97, 108] = bs then .ref wT else .null) ∧ Fr n0 L ∧ Ext h0 h) ({ frames := 3, cells := 1, slots := 2, locals := 50 } : Room).cells ({ frames := 3, cells := 1, slots := 2, locals := 50 } : Room).slots o U') := by
  refine MetFree.of_bodySF (plainFor_of_name of_pn) hisR ?_
  intro p e s m args below meth c s₁ Bd hml0 hP hK
  obtain ⟨rfl, hZ, hh⟩ := hP
  have hx := Bd.exec
  have hby := Bd.bytes
  have hml : c.maxLocals = 5 := hml0
  have hown : s.vm.findClass "com/example/indexwright/indexwright/bond/BondVariant" = some m.cls := findClass_of_methodNamed Bd.named
  have hnm := (name_of_methodNamed Bd.named Bd.method).1
  have X0 : Stand p l e ({ frames := 3, cells := 1, slots := 2, locals := 50 } : Room) s m #[(.ref a1)] below meth c s₁ [] 0 0 := Stand.of_body Bd
  have e0 : s₁.heap = h0 := by rw [← hh, Bd.state]; rfl
  have N0 := Fr.nil n0
  have KP0 := Keep.refl h0 []
  refine own_go (Q := (OwnEnd s (fun v h L => v = some (if [112, 114, 105, 99, 101] = bs then .ref wP else if [116, 111, 116, 97, 108] = bs then .ref wT else .null) ∧ Fr n0 L ∧ Ext h0 h) ({ frames := 3, cells := 1, slots := 2, locals := 50 } : Room).cells ({ frames := 3, cells := 1, slots := 2, locals := 50 } : Room).slots)) ?_
  refine own_back (fun t k => castTop (of_ef m a1) k) ?_
  show OwnGo p e below (s₁.setTop (mkF m 0 #[.val (.ref a1), .unset, .unset, .unset, .unset] [])) _
  obtain ⟨_, _, ⟨T172, L172, k172, n172⟩, -, X172, ⟨Lc172, hQ172, l172, y172, z172⟩, st172⟩ := Jvm.LawKit.callS X0 hx (y := (⟨"com/example/indexwright/indexwright/bond/BondVariant", "values", "()[Lcom/example/indexwright/indexwright/bond/BondVariant;"⟩ : MethodName)) hown (mvT hZ (hw _ (List.mem_of_getElem? (i := 15) rfl))) (mvT hZ (hw _ (List.mem_of_getElem? (i := 16) rfl))) (mvT hZ (hw _ (List.mem_of_getElem? (i := 1) rfl))) (mvT hZ (hw _ (List.mem_of_getElem? (i := 17) rfl))) (by decide) (own_backN (W := 0) (rm_val l Z a0 hw [] wP wT wV kV kP kT cz h0 n0 Z0 OL SV AV EV FV FP FT BP BT SC hcz) hZ (hw _ (List.mem_of_getElem? (i := 17) rfl)) (hw _ (List.mem_of_getElem? (i := 1) rfl)) (by decide) (by decide)) (g := (mkF m 0 #[.val (.ref a1), .unset, .unset, .unset, .unset] [])) rfl (by rw [hml]; rfl) (argsL := []) (rest := []) (lenOf of_pd0 rfl) rfl (by show 2 * 0 + _ ≤ _; exact Nat.le_of_eq rfl) (hb hby of_d0) (fun _ _ => ⟨rfl, e0, Nat.le_of_ble_eq_true rfl, Nat.le_of_ble_eq_true rfl⟩)
  dsimp only [Pt.U, Pt.locs, Pt.cells, Pt.slots] at X172 l172 y172 z172 st172 hQ172
  subst l172 y172 z172
  obtain ⟨ab172, rfl, N172q, E172, V172, s172⟩ := hQ172
  refine own_back st172 ?_
  have N172 := Fr.app N0 N172q
  have O173 := OL.ext E172
  have KP174 := KP0.ext E172
  have Zs175 := Nat.le_trans Z0 E172.1
  have ge176 := Nat.le_trans Z0 s172
  have sz177 := Nat.le_trans KP0.1 s172
  show OwnGo p e below (T172.setTop (mkF m 3 #[.val (.ref a1), .unset, .unset, .unset, .unset] [(.ref ab172)])) _
  refine own_back (fun t k => XS.astoreN X172.here hx rfl (hb hby of_d3) rfl rfl (l' := #[.val (.ref a1), .val (.ref ab172), .unset, .unset, .unset]) rfl k) ?_
  show OwnGo p e below (T172.setTop (mkF m 4 #[.val (.ref a1), .val (.ref ab172), .unset, .unset, .unset] [])) _
  refine own_back (fun t k => XS.aloadN X172.here hx rfl (hb hby of_d4) rfl rfl k) ?_
  show OwnGo p e below (T172.setTop (mkF m 5 #[.val (.ref a1), .val (.ref ab172), .unset, .unset, .unset] [(.ref ab172)])) _
  obtain ⟨c178, A178, q178, S178, M178, H178, U178⟩ := id V172
  refine own_back (fun t k => X172.arraylength hx (own_hat rfl A178.1) (State.isArrayOf_alike hZ.alike A178.2.1) (g := (mkF m 5 #[.val (.ref a1), .val (.ref ab172), .unset, .unset, .unset] [(.ref ab172)])) rfl rfl (hb hby of_d5) t k) ?_
  rw [len_of S178 M178]
  show OwnGo p e below (T172.setTop (mkF m 6 #[.val (.ref a1), .val (.ref ab172), .unset, .unset, .unset] [(.int (2 : Int32))])) _
  refine own_back (fun t k => XS.istoreN X172.here hx rfl (hb hby of_d6) rfl (l' := #[.val (.ref a1), .val (.ref ab172), .val (.int (2 : Int32)), .unset, .unset]) rfl k) ?_
  show OwnGo p e below (T172.setTop (mkF m 7 #[.val (.ref a1), .val (.ref ab172), .val (.int (2 : Int32)), .unset, .unset] [])) _
  refine own_back (fun t k => XS.iconst X172.here hx rfl (hb hby of_d7) k) ?_
  show OwnGo p e below (T172.setTop (mkF m 8 #[.val (.ref a1), .val (.ref ab172), .val (.int (2 : Int32)), .unset, .unset] [(.int (0 : Int32))])) _
  refine own_back (fun t k => XS.istoreN X172.here hx rfl (hb hby of_d8) rfl (l' := #[.val (.ref a1), .val (.ref ab172), .val (.int (2 : Int32)), .val (.int (0 : Int32)), .unset]) rfl k) ?_
  show OwnGo p e below (T172.setTop (mkF m 9 #[.val (.ref a1), .val (.ref ab172), .val (.int (2 : Int32)), .val (.int (0 : Int32)), .unset] [])) _
  refine own_back (fun t k => XS.iloadN X172.here hx rfl (hb hby of_d9) rfl k) ?_
  show OwnGo p e below (T172.setTop (mkF m 10 #[.val (.ref a1), .val (.ref ab172), .val (.int (2 : Int32)), .val (.int (0 : Int32)), .unset] [(.int (0 : Int32))])) _
  refine own_back (fun t k => XS.iloadN X172.here hx rfl (hb hby of_d10) rfl k) ?_
  show OwnGo p e below (T172.setTop (mkF m 11 #[.val (.ref a1), .val (.ref ab172), .val (.int (2 : Int32)), .val (.int (0 : Int32)), .unset] [(.int (2 : Int32)), (.int (0 : Int32))])) _
  refine own_back (fun t k => XS.icmpNo X172.here hx rfl (hb hby of_d11) rfl (Jvm.Free.XT.ii_ge_f (by decide)) k) ?_
  show OwnGo p e below (T172.setTop (mkF m 14 #[.val (.ref a1), .val (.ref ab172), .val (.int (2 : Int32)), .val (.int (0 : Int32)), .unset] [])) _
  refine own_back (fun t k => XS.aloadN X172.here hx rfl (hb hby of_d14) rfl rfl k) ?_
  show OwnGo p e below (T172.setTop (mkF m 15 #[.val (.ref a1), .val (.ref ab172), .val (.int (2 : Int32)), .val (.int (0 : Int32)), .unset] [(.ref ab172)])) _
  refine own_back (fun t k => XS.iloadN X172.here hx rfl (hb hby of_d15) rfl k) ?_
  show OwnGo p e below (T172.setTop (mkF m 16 #[.val (.ref a1), .val (.ref ab172), .val (.int (2 : Int32)), .val (.int (0 : Int32)), .unset] [(.int (0 : Int32)), (.ref ab172)])) _
  obtain ⟨c179, A179, q179, S179, M179, H179, U179⟩ := id V172
  have ib180 : ¬ ((0 : Int32) < 0 ∨ c179.slots.size ≤ ((0 : Int32)).toNatClampNeg) := (inb_of S179 ⟨by decide, by decide⟩)
  refine own_back (fun t k => X172.aaload hx (j := (0 : Int32)) (v := (.ref wP)) (own_hat rfl A179.1) (State.isArrayOf_alike hZ.alike A179.2.1) rfl A179.2.2 ib180 (H179.at ib180 rfl) (g := (mkF m 16 #[.val (.ref a1), .val (.ref ab172), .val (.int (2 : Int32)), .val (.int (0 : Int32)), .unset] [(.int (0 : Int32)), (.ref ab172)])) rfl rfl (hb hby of_d16) t k) ?_
  show OwnGo p e below (T172.setTop (mkF m 17 #[.val (.ref a1), .val (.ref ab172), .val (.int (2 : Int32)), .val (.int (0 : Int32)), .unset] [(.ref wP)])) _
  refine own_back (fun t k => XS.astore X172.here hx rfl (hb hby of_d17) rfl rfl (l' := #[.val (.ref a1), .val (.ref ab172), .val (.int (2 : Int32)), .val (.int (0 : Int32)), .val (.ref wP)]) rfl k) ?_
  show OwnGo p e below (T172.setTop (mkF m 19 #[.val (.ref a1), .val (.ref ab172), .val (.int (2 : Int32)), .val (.int (0 : Int32)), .val (.ref wP)] [])) _
  refine own_back (fun t k => XS.aload X172.here hx rfl (hb hby of_d19) rfl rfl k) ?_
  show OwnGo p e below (T172.setTop (mkF m 21 #[.val (.ref a1), .val (.ref ab172), .val (.int (2 : Int32)), .val (.int (0 : Int32)), .val (.ref wP)] [(.ref wP)])) _
  obtain ⟨T181, X181, e181, st181⟩ := getF X172 hx hZ hown (host := "") (Or.inl (hw _ (List.mem_of_getElem? (i := 33) rfl))) Via.refl rfl (FP.ext O173.2) (g := (mkF m 21 #[.val (.ref a1), .val (.ref ab172), .val (.int (2 : Int32)), .val (.int (0 : Int32)), .val (.ref wP)] [(.ref wP)])) rfl rfl (hb hby of_d21)
  refine own_back st181 ?_
  show OwnGo p e below (T181.setTop (mkF m 24 #[.val (.ref a1), .val (.ref ab172), .val (.int (2 : Int32)), .val (.int (0 : Int32)), .val (.ref wP)] [(.ref kP)])) _
  refine own_back (fun t k => XS.aloadN X181.here hx rfl (hb hby of_d24) rfl rfl k) ?_
  show OwnGo p e below (T181.setTop (mkF m 25 #[.val (.ref a1), .val (.ref ab172), .val (.int (2 : Int32)), .val (.int (0 : Int32)), .val (.ref wP)] [(.ref a1), (.ref kP)])) _
  by_cases hP : ([112, 114, 105, 99, 101] : List Int32) = bs
  · obtain ⟨cq182, kq182, q182a, q182b, q182c⟩ := isOf hZ e181 (BP.ext O173.2).exa
    obtain ⟨_, _, ⟨T182, L182, k182, n182⟩, -, X182, ⟨Lc182, hQ182, l182, y182, z182⟩, st182⟩ := X181.virtualBack hx (y := (⟨"java/lang/String", "equals", "(Ljava/lang/Object;)Z"⟩ : MethodName)) (z := (⟨"java/lang/String", "equals", "(Ljava/lang/Object;)Z"⟩ : MethodName)) hown (mvT hZ (hw _ (List.mem_of_getElem? (i := 57) rfl))) (mvT hZ (hw _ (List.mem_of_getElem? (i := 37) rfl))) (notFace_of_selects (args := #[]) (mvT hZ (hw _ (List.mem_of_getElem? (i := 39) rfl)))) (mvT hZ (hw _ (List.mem_of_getElem? (i := 39) rfl))) (mvT hZ (hw _ (List.mem_of_getElem? (i := 38) rfl))) (by decide) (own_backN (W := 0) (rm_seq l Z a0 hw [] kP a1 [112, 114, 105, 99, 101] bs cz T172.heap n0 Zs175 O173 (BP.ext O173.2) (B1.ext (own_ext KP174)) SC hcz) hZ (hw _ (List.mem_of_getElem? (i := 40) rfl)) (hw _ (List.mem_of_getElem? (i := 4) rfl)) (by decide) (by decide)) q182a q182c (g := (mkF m 25 #[.val (.ref a1), .val (.ref ab172), .val (.int (2 : Int32)), .val (.int (0 : Int32)), .val (.ref wP)] [(.ref a1), (.ref kP)])) rfl (by rw [hml]; rfl) (Steps.refl _) (argsL := [(.ref a1)]) (rest := []) (lenOf of_pd1 rfl) rfl (by show 2 * 0 + _ ≤ _; exact Nat.le_of_eq rfl) (hb hby of_d25) (fun _ _ => ⟨rfl, e181, Nat.le_of_ble_eq_true rfl, Nat.le_of_ble_eq_true rfl⟩)
    dsimp only [Pt.U, Pt.locs, Pt.cells, Pt.slots] at X182 l182 y182 z182 st182 hQ182
    subst l182 y182 z182
    rw [if_pos hP] at hQ182
    obtain ⟨rfl, N182q, hh182⟩ := hQ182
    refine own_seq st182 ?_
    have N182 := Fr.app N172 N182q
    show OwnGo p e below (T182.setTop (mkF m 28 #[.val (.ref a1), .val (.ref ab172), .val (.int (2 : Int32)), .val (.int (0 : Int32)), .val (.ref wP)] [(.int (1 : Int32))])) _
    refine own_back (fun t k => XS.ifNo X182.here hx rfl (hb hby of_d28) rfl (Jvm.Free.XT.i0_eq_f (by decide)) k) ?_
    show OwnGo p e below (T182.setTop (mkF m 31 #[.val (.ref a1), .val (.ref ab172), .val (.int (2 : Int32)), .val (.int (0 : Int32)), .val (.ref wP)] [])) _
    refine own_back (fun t k => XS.aload X182.here hx rfl (hb hby of_d31) rfl rfl k) ?_
    show OwnGo p e below (T182.setTop (mkF m 33 #[.val (.ref a1), .val (.ref ab172), .val (.int (2 : Int32)), .val (.int (0 : Int32)), .val (.ref wP)] [(.ref wP)])) _
    refine own_retA X182 hx Bd.notSynchronized Bd.returns rfl rfl (hb hby of_d33) hh182 (Nat.le_of_ble_eq_true rfl) (Nat.le_of_ble_eq_true rfl) ?_
    exact ⟨by rw [if_pos hP], N182, own_ext KP174⟩
  · obtain ⟨cq183, kq183, q183a, q183b, q183c⟩ := isOf hZ e181 (BP.ext O173.2).exa
    obtain ⟨_, _, ⟨T183, L183, k183, n183⟩, -, X183, ⟨Lc183, hQ183, l183, y183, z183⟩, st183⟩ := X181.virtualBack hx (y := (⟨"java/lang/String", "equals", "(Ljava/lang/Object;)Z"⟩ : MethodName)) (z := (⟨"java/lang/String", "equals", "(Ljava/lang/Object;)Z"⟩ : MethodName)) hown (mvT hZ (hw _ (List.mem_of_getElem? (i := 57) rfl))) (mvT hZ (hw _ (List.mem_of_getElem? (i := 37) rfl))) (notFace_of_selects (args := #[]) (mvT hZ (hw _ (List.mem_of_getElem? (i := 39) rfl)))) (mvT hZ (hw _ (List.mem_of_getElem? (i := 39) rfl))) (mvT hZ (hw _ (List.mem_of_getElem? (i := 38) rfl))) (by decide) (own_backN (W := 0) (rm_seq l Z a0 hw [] kP a1 [112, 114, 105, 99, 101] bs cz T172.heap n0 Zs175 O173 (BP.ext O173.2) (B1.ext (own_ext KP174)) SC hcz) hZ (hw _ (List.mem_of_getElem? (i := 40) rfl)) (hw _ (List.mem_of_getElem? (i := 4) rfl)) (by decide) (by decide)) q183a q183c (g := (mkF m 25 #[.val (.ref a1), .val (.ref ab172), .val (.int (2 : Int32)), .val (.int (0 : Int32)), .val (.ref wP)] [(.ref a1), (.ref kP)])) rfl (by rw [hml]; rfl) (Steps.refl _) (argsL := [(.ref a1)]) (rest := []) (lenOf of_pd1 rfl) rfl (by show 2 * 0 + _ ≤ _; exact Nat.le_of_eq rfl) (hb hby of_d25) (fun _ _ => ⟨rfl, e181, Nat.le_of_ble_eq_true rfl, Nat.le_of_ble_eq_true rfl⟩)
    dsimp only [Pt.U, Pt.locs, Pt.cells, Pt.slots] at X183 l183 y183 z183 st183 hQ183
    subst l183 y183 z183
    rw [if_neg hP] at hQ183
    obtain ⟨rfl, N183q, hh183⟩ := hQ183
    refine own_seq st183 ?_
    have N183 := Fr.app N172 N183q
    show OwnGo p e below (T183.setTop (mkF m 28 #[.val (.ref a1), .val (.ref ab172), .val (.int (2 : Int32)), .val (.int (0 : Int32)), .val (.ref wP)] [(.int (0 : Int32))])) _
    refine own_back (fun t k => XS.ifYes X183.here hx rfl (pc0 := 28) (pc' := 34) rfl (hb hby of_d28) rfl (Jvm.Free.XT.i0_eq_t (by decide)) (by decide) (by decide) k) ?_
    show OwnGo p e below (T183.setTop (mkF m 34 #[.val (.ref a1), .val (.ref ab172), .val (.int (2 : Int32)), .val (.int (0 : Int32)), .val (.ref wP)] [])) _
    refine own_back (fun t k => XS.iinc X183.here hx rfl (hb hby of_d34) rfl (l' := #[.val (.ref a1), .val (.ref ab172), .val (.int (2 : Int32)), .val (.int (1 : Int32)), .val (.ref wP)]) rfl k) ?_
    show OwnGo p e below (T183.setTop (mkF m 37 #[.val (.ref a1), .val (.ref ab172), .val (.int (2 : Int32)), .val (.int (1 : Int32)), .val (.ref wP)] [])) _
    refine own_back (fun t k => XS.goto X183.here hx rfl (pc0 := 37) (pc' := 9) rfl (hb hby of_d37) (by decide) (by decide) k) ?_
    show OwnGo p e below (T183.setTop (mkF m 9 #[.val (.ref a1), .val (.ref ab172), .val (.int (2 : Int32)), .val (.int (1 : Int32)), .val (.ref wP)] [])) _
    refine own_back (fun t k => XS.iloadN X183.here hx rfl (hb hby of_d9) rfl k) ?_
    show OwnGo p e below (T183.setTop (mkF m 10 #[.val (.ref a1), .val (.ref ab172), .val (.int (2 : Int32)), .val (.int (1 : Int32)), .val (.ref wP)] [(.int (1 : Int32))])) _
    refine own_back (fun t k => XS.iloadN X183.here hx rfl (hb hby of_d10) rfl k) ?_
    show OwnGo p e below (T183.setTop (mkF m 11 #[.val (.ref a1), .val (.ref ab172), .val (.int (2 : Int32)), .val (.int (1 : Int32)), .val (.ref wP)] [(.int (2 : Int32)), (.int (1 : Int32))])) _
    refine own_back (fun t k => XS.icmpNo X183.here hx rfl (hb hby of_d11) rfl (Jvm.Free.XT.ii_ge_f (by decide)) k) ?_
    show OwnGo p e below (T183.setTop (mkF m 14 #[.val (.ref a1), .val (.ref ab172), .val (.int (2 : Int32)), .val (.int (1 : Int32)), .val (.ref wP)] [])) _
    refine own_back (fun t k => XS.aloadN X183.here hx rfl (hb hby of_d14) rfl rfl k) ?_
    show OwnGo p e below (T183.setTop (mkF m 15 #[.val (.ref a1), .val (.ref ab172), .val (.int (2 : Int32)), .val (.int (1 : Int32)), .val (.ref wP)] [(.ref ab172)])) _
    refine own_back (fun t k => XS.iloadN X183.here hx rfl (hb hby of_d15) rfl k) ?_
    show OwnGo p e below (T183.setTop (mkF m 16 #[.val (.ref a1), .val (.ref ab172), .val (.int (2 : Int32)), .val (.int (1 : Int32)), .val (.ref wP)] [(.int (1 : Int32)), (.ref ab172)])) _
    obtain ⟨c184, A184, q184, S184, M184, H184, U184⟩ := id V172
    have ib185 : ¬ ((1 : Int32) < 0 ∨ c184.slots.size ≤ ((1 : Int32)).toNatClampNeg) := (inb_of S184 ⟨by decide, by decide⟩)
    refine own_back (fun t k => X183.aaload hx (j := (1 : Int32)) (v := (.ref wT)) (own_hat hh183 A184.1) (State.isArrayOf_alike hZ.alike A184.2.1) rfl A184.2.2 ib185 (H184.at ib185 rfl) (g := (mkF m 16 #[.val (.ref a1), .val (.ref ab172), .val (.int (2 : Int32)), .val (.int (1 : Int32)), .val (.ref wP)] [(.int (1 : Int32)), (.ref ab172)])) rfl rfl (hb hby of_d16) t k) ?_
    show OwnGo p e below (T183.setTop (mkF m 17 #[.val (.ref a1), .val (.ref ab172), .val (.int (2 : Int32)), .val (.int (1 : Int32)), .val (.ref wP)] [(.ref wT)])) _
    refine own_back (fun t k => XS.astore X183.here hx rfl (hb hby of_d17) rfl rfl (l' := #[.val (.ref a1), .val (.ref ab172), .val (.int (2 : Int32)), .val (.int (1 : Int32)), .val (.ref wT)]) rfl k) ?_
    show OwnGo p e below (T183.setTop (mkF m 19 #[.val (.ref a1), .val (.ref ab172), .val (.int (2 : Int32)), .val (.int (1 : Int32)), .val (.ref wT)] [])) _
    refine own_back (fun t k => XS.aload X183.here hx rfl (hb hby of_d19) rfl rfl k) ?_
    show OwnGo p e below (T183.setTop (mkF m 21 #[.val (.ref a1), .val (.ref ab172), .val (.int (2 : Int32)), .val (.int (1 : Int32)), .val (.ref wT)] [(.ref wT)])) _
    obtain ⟨T186, X186, e186, st186⟩ := getF X183 hx hZ hown (host := "") (Or.inl (hw _ (List.mem_of_getElem? (i := 33) rfl))) Via.refl hh183 (FT.ext O173.2) (g := (mkF m 21 #[.val (.ref a1), .val (.ref ab172), .val (.int (2 : Int32)), .val (.int (1 : Int32)), .val (.ref wT)] [(.ref wT)])) rfl rfl (hb hby of_d21)
    refine own_back st186 ?_
    show OwnGo p e below (T186.setTop (mkF m 24 #[.val (.ref a1), .val (.ref ab172), .val (.int (2 : Int32)), .val (.int (1 : Int32)), .val (.ref wT)] [(.ref kT)])) _
    refine own_back (fun t k => XS.aloadN X186.here hx rfl (hb hby of_d24) rfl rfl k) ?_
    show OwnGo p e below (T186.setTop (mkF m 25 #[.val (.ref a1), .val (.ref ab172), .val (.int (2 : Int32)), .val (.int (1 : Int32)), .val (.ref wT)] [(.ref a1), (.ref kT)])) _
    by_cases hT : ([116, 111, 116, 97, 108] : List Int32) = bs
    · obtain ⟨cq187, kq187, q187a, q187b, q187c⟩ := isOf hZ e186 (BT.ext O173.2).exa
      obtain ⟨_, _, ⟨T187, L187, k187, n187⟩, -, X187, ⟨Lc187, hQ187, l187, y187, z187⟩, st187⟩ := X186.virtualBack hx (y := (⟨"java/lang/String", "equals", "(Ljava/lang/Object;)Z"⟩ : MethodName)) (z := (⟨"java/lang/String", "equals", "(Ljava/lang/Object;)Z"⟩ : MethodName)) hown (mvT hZ (hw _ (List.mem_of_getElem? (i := 57) rfl))) (mvT hZ (hw _ (List.mem_of_getElem? (i := 37) rfl))) (notFace_of_selects (args := #[]) (mvT hZ (hw _ (List.mem_of_getElem? (i := 39) rfl)))) (mvT hZ (hw _ (List.mem_of_getElem? (i := 39) rfl))) (mvT hZ (hw _ (List.mem_of_getElem? (i := 38) rfl))) (by decide) (own_backN (W := 0) (rm_seq l Z a0 hw [] kT a1 [116, 111, 116, 97, 108] bs cz T172.heap n0 Zs175 O173 (BT.ext O173.2) (B1.ext (own_ext KP174)) SC hcz) hZ (hw _ (List.mem_of_getElem? (i := 40) rfl)) (hw _ (List.mem_of_getElem? (i := 4) rfl)) (by decide) (by decide)) q187a q187c (g := (mkF m 25 #[.val (.ref a1), .val (.ref ab172), .val (.int (2 : Int32)), .val (.int (1 : Int32)), .val (.ref wT)] [(.ref a1), (.ref kT)])) rfl (by rw [hml]; rfl) (Steps.refl _) (argsL := [(.ref a1)]) (rest := []) (lenOf of_pd1 rfl) rfl (by show 2 * 0 + _ ≤ _; exact Nat.le_of_eq rfl) (hb hby of_d25) (fun _ _ => ⟨rfl, e186, Nat.le_of_ble_eq_true rfl, Nat.le_of_ble_eq_true rfl⟩)
      dsimp only [Pt.U, Pt.locs, Pt.cells, Pt.slots] at X187 l187 y187 z187 st187 hQ187
      subst l187 y187 z187
      rw [if_pos hT] at hQ187
      obtain ⟨rfl, N187q, hh187⟩ := hQ187
      refine own_seq st187 ?_
      have N187 := Fr.app N183 N187q
      show OwnGo p e below (T187.setTop (mkF m 28 #[.val (.ref a1), .val (.ref ab172), .val (.int (2 : Int32)), .val (.int (1 : Int32)), .val (.ref wT)] [(.int (1 : Int32))])) _
      refine own_back (fun t k => XS.ifNo X187.here hx rfl (hb hby of_d28) rfl (Jvm.Free.XT.i0_eq_f (by decide)) k) ?_
      show OwnGo p e below (T187.setTop (mkF m 31 #[.val (.ref a1), .val (.ref ab172), .val (.int (2 : Int32)), .val (.int (1 : Int32)), .val (.ref wT)] [])) _
      refine own_back (fun t k => XS.aload X187.here hx rfl (hb hby of_d31) rfl rfl k) ?_
      show OwnGo p e below (T187.setTop (mkF m 33 #[.val (.ref a1), .val (.ref ab172), .val (.int (2 : Int32)), .val (.int (1 : Int32)), .val (.ref wT)] [(.ref wT)])) _
      refine own_retA X187 hx Bd.notSynchronized Bd.returns rfl rfl (hb hby of_d33) hh187 (Nat.le_of_ble_eq_true rfl) (Nat.le_of_ble_eq_true rfl) ?_
      exact ⟨by rw [if_neg hP, if_pos hT], N187, own_ext KP174⟩
    · obtain ⟨cq188, kq188, q188a, q188b, q188c⟩ := isOf hZ e186 (BT.ext O173.2).exa
      obtain ⟨_, _, ⟨T188, L188, k188, n188⟩, -, X188, ⟨Lc188, hQ188, l188, y188, z188⟩, st188⟩ := X186.virtualBack hx (y := (⟨"java/lang/String", "equals", "(Ljava/lang/Object;)Z"⟩ : MethodName)) (z := (⟨"java/lang/String", "equals", "(Ljava/lang/Object;)Z"⟩ : MethodName)) hown (mvT hZ (hw _ (List.mem_of_getElem? (i := 57) rfl))) (mvT hZ (hw _ (List.mem_of_getElem? (i := 37) rfl))) (notFace_of_selects (args := #[]) (mvT hZ (hw _ (List.mem_of_getElem? (i := 39) rfl)))) (mvT hZ (hw _ (List.mem_of_getElem? (i := 39) rfl))) (mvT hZ (hw _ (List.mem_of_getElem? (i := 38) rfl))) (by decide) (own_backN (W := 0) (rm_seq l Z a0 hw [] kT a1 [116, 111, 116, 97, 108] bs cz T172.heap n0 Zs175 O173 (BT.ext O173.2) (B1.ext (own_ext KP174)) SC hcz) hZ (hw _ (List.mem_of_getElem? (i := 40) rfl)) (hw _ (List.mem_of_getElem? (i := 4) rfl)) (by decide) (by decide)) q188a q188c (g := (mkF m 25 #[.val (.ref a1), .val (.ref ab172), .val (.int (2 : Int32)), .val (.int (1 : Int32)), .val (.ref wT)] [(.ref a1), (.ref kT)])) rfl (by rw [hml]; rfl) (Steps.refl _) (argsL := [(.ref a1)]) (rest := []) (lenOf of_pd1 rfl) rfl (by show 2 * 0 + _ ≤ _; exact Nat.le_of_eq rfl) (hb hby of_d25) (fun _ _ => ⟨rfl, e186, Nat.le_of_ble_eq_true rfl, Nat.le_of_ble_eq_true rfl⟩)
      dsimp only [Pt.U, Pt.locs, Pt.cells, Pt.slots] at X188 l188 y188 z188 st188 hQ188
      subst l188 y188 z188
      rw [if_neg hT] at hQ188
      obtain ⟨rfl, N188q, hh188⟩ := hQ188
      refine own_seq st188 ?_
      have N188 := Fr.app N183 N188q
      show OwnGo p e below (T188.setTop (mkF m 28 #[.val (.ref a1), .val (.ref ab172), .val (.int (2 : Int32)), .val (.int (1 : Int32)), .val (.ref wT)] [(.int (0 : Int32))])) _
      refine own_back (fun t k => XS.ifYes X188.here hx rfl (pc0 := 28) (pc' := 34) rfl (hb hby of_d28) rfl (Jvm.Free.XT.i0_eq_t (by decide)) (by decide) (by decide) k) ?_
      show OwnGo p e below (T188.setTop (mkF m 34 #[.val (.ref a1), .val (.ref ab172), .val (.int (2 : Int32)), .val (.int (1 : Int32)), .val (.ref wT)] [])) _
      refine own_back (fun t k => XS.iinc X188.here hx rfl (hb hby of_d34) rfl (l' := #[.val (.ref a1), .val (.ref ab172), .val (.int (2 : Int32)), .val (.int (2 : Int32)), .val (.ref wT)]) rfl k) ?_
      show OwnGo p e below (T188.setTop (mkF m 37 #[.val (.ref a1), .val (.ref ab172), .val (.int (2 : Int32)), .val (.int (2 : Int32)), .val (.ref wT)] [])) _
      refine own_back (fun t k => XS.goto X188.here hx rfl (pc0 := 37) (pc' := 9) rfl (hb hby of_d37) (by decide) (by decide) k) ?_
      show OwnGo p e below (T188.setTop (mkF m 9 #[.val (.ref a1), .val (.ref ab172), .val (.int (2 : Int32)), .val (.int (2 : Int32)), .val (.ref wT)] [])) _
      refine own_back (fun t k => XS.iloadN X188.here hx rfl (hb hby of_d9) rfl k) ?_
      show OwnGo p e below (T188.setTop (mkF m 10 #[.val (.ref a1), .val (.ref ab172), .val (.int (2 : Int32)), .val (.int (2 : Int32)), .val (.ref wT)] [(.int (2 : Int32))])) _
      refine own_back (fun t k => XS.iloadN X188.here hx rfl (hb hby of_d10) rfl k) ?_
      show OwnGo p e below (T188.setTop (mkF m 11 #[.val (.ref a1), .val (.ref ab172), .val (.int (2 : Int32)), .val (.int (2 : Int32)), .val (.ref wT)] [(.int (2 : Int32)), (.int (2 : Int32))])) _
      refine own_back (fun t k => XS.icmpYes X188.here hx rfl (pc0 := 11) (pc' := 40) rfl (hb hby of_d11) rfl (Jvm.Free.XT.ii_ge_t (by decide)) (by decide) (by decide) k) ?_
      show OwnGo p e below (T188.setTop (mkF m 40 #[.val (.ref a1), .val (.ref ab172), .val (.int (2 : Int32)), .val (.int (2 : Int32)), .val (.ref wT)] [])) _
      refine own_back (fun t k => XS.aconstNull X188.here hx rfl (hb hby of_d40) k) ?_
      show OwnGo p e below (T188.setTop (mkF m 41 #[.val (.ref a1), .val (.ref ab172), .val (.int (2 : Int32)), .val (.int (2 : Int32)), .val (.ref wT)] [.null])) _
      refine own_retA X188 hx Bd.notSynchronized Bd.returns rfl rfl (hb hby of_d41) hh188 (Nat.le_of_ble_eq_true rfl) (Nat.le_of_ble_eq_true rfl) ?_
      exact ⟨by rw [if_neg hP, if_neg hT], N188, own_ext KP174⟩
theorem lw_pn : plainName "com/example/indexwright/indexwright/bond/BondVariantKeysPinLaw" = true := by first | (simp [plainName, overriddenIn]; done) | decide +kernel
theorem lw_pd0 : parseMethodDescriptor "()[Ljava/lang/String;" = some ⟨[], some (.array (.object "java/lang/String"))⟩ := by decide +kernel
theorem lw_pd1 : parseMethodDescriptor "(Ljava/lang/Object;)Z" = some ⟨[(.object "java/lang/Object")], some .boolean⟩ := by decide +kernel
theorem lw_pd2 : parseMethodDescriptor "()Ljava/lang/String;" = some ⟨[], some (.object "java/lang/String")⟩ := by decide +kernel
theorem lw_pd3 : parseMethodDescriptor "(Ljava/lang/String;)Lcom/example/indexwright/indexwright/bond/BondVariant;" = some ⟨[(.object "java/lang/String")], some (.object "com/example/indexwright/indexwright/bond/BondVariant")⟩ := by decide +kernel
theorem lw_ef (m : MethodId) (x0 : Int32) : entryFrame m #[(.int x0)] maxLocals = mkF m 0 #[.val (.int x0), .unset, .unset, .unset, .unset, .unset, .unset] [] := by first | (simp [entryFrame, mkF, argsToLocals, Value.category, maxLocals]; done) | rfl
set_option maxRecDepth 65536 in
set_option maxHeartbeats 40000000 in
theorem rm_law (l : Launch) (Z : State) (a0 : Array Value) (hw : ∀ d ∈ tables_1, d.before a0 Z = true) (ws : List Jvm.Cond) (p1 : Int32) (wP : Addr) (wT : Addr) (wV : Addr) (kV : ClassId) (kP : Addr) (kT : Addr) (cz : Int32) (h0 : Heap) (n0 : Nat) (Z0 : n0 ≤ h0.size) (OL : Old Z n0 h0) (SP : Sta Z Z.heap "com/example/indexwright/indexwright/bond/BondVariant" "PRICE" "Lcom/example/indexwright/indexwright/bond/BondVariant;" (.ref wP)) (ST : Sta Z Z.heap "com/example/indexwright/indexwright/bond/BondVariant" "TOTAL" "Lcom/example/indexwright/indexwright/bond/BondVariant;" (.ref wT)) (EP : Exa Z Z.heap wP "com/example/indexwright/indexwright/bond/BondVariant") (ET : Exa Z Z.heap wT "com/example/indexwright/indexwright/bond/BondVariant") (SV : Sta Z Z.heap "com/example/indexwright/indexwright/bond/BondVariant" "$VALUES" "[Lcom/example/indexwright/indexwright/bond/BondVariant;" (.ref wV)) (AV : Arv Z Z.heap wV kV (.object "com/example/indexwright/indexwright/bond/BondVariant") 2 [.ref wP, .ref wT] .null) (EV : Exa Z Z.heap wV "[Lcom/example/indexwright/indexwright/bond/BondVariant;") (FV : ∀ c, Z.heap[wV]? = some c → FitC Z c) (FP : Fld Z Z.heap wP "com/example/indexwright/indexwright/bond/BondVariant" "key" "Ljava/lang/String;" (.ref kP)) (FT : Fld Z Z.heap wT "com/example/indexwright/indexwright/bond/BondVariant" "key" "Ljava/lang/String;" (.ref kT)) (BP : OwnStr Z Z.heap kP [112, 114, 105, 99, 101]) (BT : OwnStr Z Z.heap kT [116, 111, 116, 97, 108]) (SC : Sta Z Z.heap "java/lang/String" "COMPACT_STRINGS" "Z" (.int cz)) (hcz : ¬ cz = 0) :
    MetFree l x (head1 (Jvm.Cond.code x code maxLocals ret :: ws) room_1) (fun a U => a = #[(.int p1)] ∧ Z.Warmed39 U.vm ∧ U.heap = h0 ∧ CHv Z own_EL U.vm h0 ∧ ∀ x ∈ ([] : List Addr), Safe Z own_EL U.vm h0 x) (fun _ _ _ _ _ => True) (fun _ U o U' => OwnEndW Z own_EL U (fun v h L => v = some (.int 1) ∧ Fr n0 L) room_1.cells room_1.slots o U') := by
  refine MetFree.of_bodySF (plainFor_of_name lw_pn) hisR ?_
  intro p e s m args below meth c s₁ Bd hml0 hP hK
  obtain ⟨rfl, hZ, hh, hCH, hSL⟩ := hP
  have hx := Bd.exec
  have hby := Bd.bytes
  have hml : c.maxLocals = 7 := hml0
  have hown : s.vm.findClass "com/example/indexwright/indexwright/bond/BondVariantKeysPinLaw" = some m.cls := findClass_of_methodNamed Bd.named
  have hnm := (name_of_methodNamed Bd.named Bd.method).1
  have X0 : Stand p l e room_1 (s.setVm s.vm) m #[(.int p1)] below meth c s₁ [] 0 0 := Stand.of_body Bd
  have e0 : s₁.heap = h0 := by rw [← hh, Bd.state]; rfl
  have N0 := Fr.nil n0
  have KP0 := Keep.refl h0 []
  have hown : (s.setVm s.vm).vm.findClass "com/example/indexwright/indexwright/bond/BondVariantKeysPinLaw" = some m.cls := hown
  have hZ : Z.Warmed39 (s.setVm s.vm).vm := hZ
  have hS0 : s.Since s.vm 0 := (State.WarmedH.refl s).since 0
  have hk0 : 0 ≤ h0.size := Nat.zero_le _
  have CR0 : CHr Z own_EL s.vm h0 s.vm h0 := CHr.refl hCH
  have hEL := own_EW hw
  refine own_go (Q := (OwnEndW Z own_EL s (fun v h L => v = some (.int 1) ∧ Fr n0 L) room_1.cells room_1.slots)) ?_
  refine own_back (fun t k => castTop (lw_ef m p1) k) ?_
  show OwnGo p e below (s₁.setTop (mkF m 0 #[.val (.int p1), .unset, .unset, .unset, .unset, .unset, .unset] [])) _
  refine own_back (fun t k => XS.iloadN X0.here hx rfl (hb hby at_0) rfl k) ?_
  show OwnGo p e below (s₁.setTop (mkF m 1 #[.val (.int p1), .unset, .unset, .unset, .unset, .unset, .unset] [(.int p1)])) _
  refine own_back (fun t k => XS.iconst X0.here hx rfl (hb hby at_1) k) ?_
  show OwnGo p e below (s₁.setTop (mkF m 2 #[.val (.int p1), .unset, .unset, .unset, .unset, .unset, .unset] [(.int (1 : Int32)), (.int p1)])) _
  refine own_back (fun t k => XS.iand X0.here hx rfl (hb hby at_2) rfl k) ?_
  show OwnGo p e below (s₁.setTop (mkF m 3 #[.val (.int p1), .unset, .unset, .unset, .unset, .unset, .unset] [(.int (p1 &&& (1 : Int32)))])) _
  refine own_back (fun t k => XS.istoreN X0.here hx rfl (hb hby at_3) rfl (l' := #[.val (.int p1), .val (.int (p1 &&& (1 : Int32))), .unset, .unset, .unset, .unset, .unset]) rfl k) ?_
  show OwnGo p e below (s₁.setTop (mkF m 4 #[.val (.int p1), .val (.int (p1 &&& (1 : Int32))), .unset, .unset, .unset, .unset, .unset] [])) _
  rcases and_one p1 with hi | hi
  · rw [hi]
    show OwnGo p e below (s₁.setTop (mkF m 4 #[.val (.int p1), .val (.int (0 : Int32)), .unset, .unset, .unset, .unset, .unset] [])) _
    refine own_back (fun t k => XS.iloadN X0.here hx rfl (hb hby at_4) rfl k) ?_
    show OwnGo p e below (s₁.setTop (mkF m 5 #[.val (.int p1), .val (.int (0 : Int32)), .unset, .unset, .unset, .unset, .unset] [(.int (0 : Int32))])) _
    refine own_back (fun t k => XS.ifNo X0.here hx rfl (hb hby at_5) rfl (Jvm.Free.XT.i0_ne_f (by decide)) k) ?_
    show OwnGo p e below (s₁.setTop (mkF m 8 #[.val (.int p1), .val (.int (0 : Int32)), .unset, .unset, .unset, .unset, .unset] [])) _
    obtain ⟨T189, X189, e189, st189⟩ := getS2 X0 hx hZ hown (host := "") (Or.inl (hw _ (List.mem_of_getElem? (i := 0) rfl))) Via.refl e0 (SP.ext OL.2) (g := (mkF m 8 #[.val (.int p1), .val (.int (0 : Int32)), .unset, .unset, .unset, .unset, .unset] [])) rfl (hb hby at_8)
    refine own_back st189 ?_
    show OwnGo p e below (T189.setTop (mkF m 11 #[.val (.int p1), .val (.int (0 : Int32)), .unset, .unset, .unset, .unset, .unset] [(.ref wP)])) _
    refine own_back (fun t k => XS.goto X189.here hx rfl (pc0 := 11) (pc' := 17) rfl (hb hby at_11) (by decide) (by decide) k) ?_
    show OwnGo p e below (T189.setTop (mkF m 17 #[.val (.int p1), .val (.int (0 : Int32)), .unset, .unset, .unset, .unset, .unset] [(.ref wP)])) _
    refine own_back (fun t k => XS.astoreN X189.here hx rfl (hb hby at_17) rfl rfl (l' := #[.val (.int p1), .val (.int (0 : Int32)), .val (.ref wP), .unset, .unset, .unset, .unset]) rfl k) ?_
    show OwnGo p e below (T189.setTop (mkF m 18 #[.val (.int p1), .val (.int (0 : Int32)), .val (.ref wP), .unset, .unset, .unset, .unset] [])) _
    refine own_back (fun t k => XS.iloadN X189.here hx rfl (hb hby at_18) rfl k) ?_
    show OwnGo p e below (T189.setTop (mkF m 19 #[.val (.int p1), .val (.int (0 : Int32)), .val (.ref wP), .unset, .unset, .unset, .unset] [(.int (0 : Int32))])) _
    refine own_back (fun t k => XS.ifNo X189.here hx rfl (hb hby at_19) rfl (Jvm.Free.XT.i0_ne_f (by decide)) k) ?_
    show OwnGo p e below (T189.setTop (mkF m 22 #[.val (.int p1), .val (.int (0 : Int32)), .val (.ref wP), .unset, .unset, .unset, .unset] [])) _
    obtain ⟨a190, T190, h190, k1190, t190, kb190, X190, e190, E190, hS190, hk190, hZ190, hown190, EX190, FC190, FV190, AV190, la190, lb190, CRl190, hLit190, sx190, st190⟩ := ldcCH X189 hx hZ hown (hw _ (List.mem_of_getElem? (i := 3) rfl)) (own_wS hw) e189 hS0 hk0 hEL (List.mem_of_getElem? (i := 0) rfl) CR0.1 (vs := [(.int 112), (.int 114), (.int 105), (.int 99), (.int 101)]) (z := 5) ⟨by decide, by decide⟩ (by decide) (by decide) (g := (mkF m 22 #[.val (.int p1), .val (.int (0 : Int32)), .val (.ref wP), .unset, .unset, .unset, .unset] [])) rfl (hb hby at_22) (n := 20) (Nat.le_of_ble_eq_true rfl) (by decide) (Nat.le_of_ble_eq_true rfl) (Nat.le_of_ble_eq_true rfl)
    have O191 := OL.ext E190
    have KP192 := KP0.ext E190
    have Zs193 := Nat.le_trans Z0 E190.1
    have CR194 := CR0.trans CRl190
    refine own_back st190 ?_
    show OwnGo p e below (T190.setTop (mkF m 24 #[.val (.int p1), .val (.int (0 : Int32)), .val (.ref wP), .unset, .unset, .unset, .unset] [(.ref a190)])) _
    refine own_back (fun t k => XS.goto X190.here hx rfl (pc0 := 24) (pc' := 29) rfl (hb hby at_24) (by decide) (by decide) k) ?_
    show OwnGo p e below (T190.setTop (mkF m 29 #[.val (.int p1), .val (.int (0 : Int32)), .val (.ref wP), .unset, .unset, .unset, .unset] [(.ref a190)])) _
    refine own_back (fun t k => XS.astoreN X190.here hx rfl (hb hby at_29) rfl rfl (l' := #[.val (.int p1), .val (.int (0 : Int32)), .val (.ref wP), .val (.ref a190), .unset, .unset, .unset]) rfl k) ?_
    show OwnGo p e below (T190.setTop (mkF m 30 #[.val (.int p1), .val (.int (0 : Int32)), .val (.ref wP), .val (.ref a190), .unset, .unset, .unset] [])) _
    refine own_back (fun t k => XS.iloadN X190.here hx rfl (hb hby at_30) rfl k) ?_
    show OwnGo p e below (T190.setTop (mkF m 31 #[.val (.int p1), .val (.int (0 : Int32)), .val (.ref wP), .val (.ref a190), .unset, .unset, .unset] [(.int (0 : Int32))])) _
    refine own_back (fun t k => XS.ifNo X190.here hx rfl (hb hby at_31) rfl (Jvm.Free.XT.i0_ne_f (by decide)) k) ?_
    show OwnGo p e below (T190.setTop (mkF m 34 #[.val (.int p1), .val (.int (0 : Int32)), .val (.ref wP), .val (.ref a190), .unset, .unset, .unset] [])) _
    obtain ⟨a195, T195, h195, k1195, t195, kb195, X195, e195, E195, hS195, hk195, hZ195, hown195, EX195, FC195, FV195, AV195, la195, lb195, CRl195, hLit195, sx195, st195⟩ := ldcCH X190 hx hZ190 hown190 (hw _ (List.mem_of_getElem? (i := 11) rfl)) (own_wS hw) e190 hS190 hk190 hEL (List.mem_of_getElem? (i := 1) rfl) CR194.1 (vs := [(.int 116), (.int 111), (.int 116), (.int 97), (.int 108)]) (z := 5) ⟨by decide, by decide⟩ (by decide) (by decide) (g := (mkF m 34 #[.val (.int p1), .val (.int (0 : Int32)), .val (.ref wP), .val (.ref a190), .unset, .unset, .unset] [])) rfl (hb hby at_34) (n := 20) (Nat.le_of_ble_eq_true rfl) (by decide) (Nat.le_of_ble_eq_true rfl) (Nat.le_of_ble_eq_true rfl)
    have O196 := O191.ext E195
    have KP197 := KP192.ext E195
    have Zs198 := Nat.le_trans Zs193 E195.1
    have CR199 := CR194.trans CRl195
    have f200 := EX190.ext E195
    have f201 := FC190.ext E195
    have f202 := FV190.ext E195
    have f203 := AV190.ext E195
    refine own_back st195 ?_
    show OwnGo p e below (T195.setTop (mkF m 36 #[.val (.int p1), .val (.int (0 : Int32)), .val (.ref wP), .val (.ref a190), .unset, .unset, .unset] [(.ref a195)])) _
    refine own_back (fun t k => XS.goto X195.here hx rfl (pc0 := 36) (pc' := 41) rfl (hb hby at_36) (by decide) (by decide) k) ?_
    show OwnGo p e below (T195.setTop (mkF m 41 #[.val (.int p1), .val (.int (0 : Int32)), .val (.ref wP), .val (.ref a190), .unset, .unset, .unset] [(.ref a195)])) _
    refine own_back (fun t k => XS.astore X195.here hx rfl (hb hby at_41) rfl rfl (l' := #[.val (.int p1), .val (.int (0 : Int32)), .val (.ref wP), .val (.ref a190), .val (.ref a195), .unset, .unset]) rfl k) ?_
    show OwnGo p e below (T195.setTop (mkF m 43 #[.val (.int p1), .val (.int (0 : Int32)), .val (.ref wP), .val (.ref a190), .val (.ref a195), .unset, .unset] [])) _
    obtain ⟨_, _, ⟨T204, L204, k204, n204⟩, -, X204, ⟨Lc204, hQ204, l204, y204, z204⟩, st204⟩ := Jvm.LawKit.callS X195 hx (y := (⟨"com/example/indexwright/indexwright/bond/BondVariant", "keys", "()[Ljava/lang/String;"⟩ : MethodName)) hown195 (mvT hZ195 (hw _ (List.mem_of_getElem? (i := 12) rfl))) (mvT hZ195 (hw _ (List.mem_of_getElem? (i := 13) rfl))) (mvT hZ195 (hw _ (List.mem_of_getElem? (i := 1) rfl))) (mvT hZ195 (hw _ (List.mem_of_getElem? (i := 14) rfl))) (by decide) (own_backN (W := 0) (rm_keys l Z a0 hw [] wP wT wV kV kP kT cz h195 n0 Zs198 O196 SV AV EV FV FP FT BP BT SC hcz) hZ195 (hw _ (List.mem_of_getElem? (i := 14) rfl)) (hw _ (List.mem_of_getElem? (i := 1) rfl)) (by decide) (by decide)) (g := (mkF m 43 #[.val (.int p1), .val (.int (0 : Int32)), .val (.ref wP), .val (.ref a190), .val (.ref a195), .unset, .unset] [])) rfl (by rw [hml]; rfl) (argsL := []) (rest := []) (lenOf lw_pd0 rfl) rfl (by show 2 * 0 + _ ≤ _; exact Nat.le_of_eq rfl) (hb hby at_43) (fun _ _ => ⟨rfl, e195, Nat.le_of_ble_eq_true rfl, Nat.le_of_ble_eq_true rfl⟩)
    dsimp only [Pt.U, Pt.locs, Pt.cells, Pt.slots] at X204 l204 y204 z204 st204 hQ204
    subst l204 y204 z204
    obtain ⟨ab204, kk204, rfl, N204q, E204, V204, s204⟩ := hQ204
    refine own_back st204 ?_
    have N204 := Fr.app N0 N204q
    have O205 := O196.ext E204
    have KP206 := KP197.ext E204
    have Zs207 := Nat.le_trans Zs198 E204.1
    have CR208 := CR199.trans (CHr.ext E204 CR199.1)
    have hk209 := Nat.le_trans hk195 E204.1
    have f210 := f200.ext E204
    have f211 := f201.ext E204
    have f212 := f202.ext E204
    have f213 := f203.ext E204
    have f214 := EX195.ext E204
    have f215 := FC195.ext E204
    have f216 := FV195.ext E204
    have f217 := AV195.ext E204
    have ge218 := Nat.le_trans Zs198 s204
    have sz219 := Nat.le_trans KP197.1 s204
    show OwnGo p e below (T204.setTop (mkF m 46 #[.val (.int p1), .val (.int (0 : Int32)), .val (.ref wP), .val (.ref a190), .val (.ref a195), .unset, .unset] [(.ref ab204)])) _
    refine own_back (fun t k => XS.astore X204.here hx rfl (hb hby at_46) rfl rfl (l' := #[.val (.int p1), .val (.int (0 : Int32)), .val (.ref wP), .val (.ref a190), .val (.ref a195), .val (.ref ab204), .unset]) rfl k) ?_
    show OwnGo p e below (T204.setTop (mkF m 48 #[.val (.int p1), .val (.int (0 : Int32)), .val (.ref wP), .val (.ref a190), .val (.ref a195), .val (.ref ab204), .unset] [])) _
    refine own_back (fun t k => XS.aload X204.here hx rfl (hb hby at_48) rfl rfl k) ?_
    show OwnGo p e below (T204.setTop (mkF m 50 #[.val (.int p1), .val (.int (0 : Int32)), .val (.ref wP), .val (.ref a190), .val (.ref a195), .val (.ref ab204), .unset] [(.ref ab204)])) _
    refine own_back (fun t k => XS.ifnullNo X204.here hx rfl (hb hby at_50) rfl k) ?_
    show OwnGo p e below (T204.setTop (mkF m 53 #[.val (.int p1), .val (.int (0 : Int32)), .val (.ref wP), .val (.ref a190), .val (.ref a195), .val (.ref ab204), .unset] [])) _
    refine own_back (fun t k => XS.aload X204.here hx rfl (hb hby at_53) rfl rfl k) ?_
    show OwnGo p e below (T204.setTop (mkF m 55 #[.val (.int p1), .val (.int (0 : Int32)), .val (.ref wP), .val (.ref a190), .val (.ref a195), .val (.ref ab204), .unset] [(.ref ab204)])) _
    obtain ⟨c220, A220, q220, S220, M220, H220, U220⟩ := id V204
    refine own_back (fun t k => X204.arraylength hx (own_hat rfl A220.1) (State.isArrayOf_alike hZ195.alike A220.2.1) (g := (mkF m 55 #[.val (.int p1), .val (.int (0 : Int32)), .val (.ref wP), .val (.ref a190), .val (.ref a195), .val (.ref ab204), .unset] [(.ref ab204)])) rfl rfl (hb hby at_55) t k) ?_
    rw [len_of S220 M220]
    show OwnGo p e below (T204.setTop (mkF m 56 #[.val (.int p1), .val (.int (0 : Int32)), .val (.ref wP), .val (.ref a190), .val (.ref a195), .val (.ref ab204), .unset] [(.int (2 : Int32))])) _
    refine own_back (fun t k => XS.iconst X204.here hx rfl (hb hby at_56) k) ?_
    show OwnGo p e below (T204.setTop (mkF m 57 #[.val (.int p1), .val (.int (0 : Int32)), .val (.ref wP), .val (.ref a190), .val (.ref a195), .val (.ref ab204), .unset] [(.int (2 : Int32)), (.int (2 : Int32))])) _
    refine own_back (fun t k => XS.icmpYes X204.here hx rfl (pc0 := 57) (pc' := 62) rfl (hb hby at_57) rfl (Jvm.Free.XT.ii_eq_t (by decide)) (by decide) (by decide) k) ?_
    show OwnGo p e below (T204.setTop (mkF m 62 #[.val (.int p1), .val (.int (0 : Int32)), .val (.ref wP), .val (.ref a190), .val (.ref a195), .val (.ref ab204), .unset] [])) _
    refine own_back (fun t k => XS.aloadN X204.here hx rfl (hb hby at_62) rfl rfl k) ?_
    show OwnGo p e below (T204.setTop (mkF m 63 #[.val (.int p1), .val (.int (0 : Int32)), .val (.ref wP), .val (.ref a190), .val (.ref a195), .val (.ref ab204), .unset] [(.ref a190)])) _
    refine own_back (fun t k => XS.aload X204.here hx rfl (hb hby at_63) rfl rfl k) ?_
    show OwnGo p e below (T204.setTop (mkF m 65 #[.val (.int p1), .val (.int (0 : Int32)), .val (.ref wP), .val (.ref a190), .val (.ref a195), .val (.ref ab204), .unset] [(.ref ab204), (.ref a190)])) _
    refine own_back (fun t k => XS.iloadN X204.here hx rfl (hb hby at_65) rfl k) ?_
    show OwnGo p e below (T204.setTop (mkF m 66 #[.val (.int p1), .val (.int (0 : Int32)), .val (.ref wP), .val (.ref a190), .val (.ref a195), .val (.ref ab204), .unset] [(.int (0 : Int32)), (.ref ab204), (.ref a190)])) _
    obtain ⟨c221, A221, q221, S221, M221, H221, U221⟩ := id V204
    have ib222 : ¬ ((0 : Int32) < 0 ∨ c221.slots.size ≤ ((0 : Int32)).toNatClampNeg) := (inb_of S221 ⟨by decide, by decide⟩)
    refine own_back (fun t k => X204.aaload hx (j := (0 : Int32)) (v := (.ref kP)) (own_hat rfl A221.1) (State.isArrayOf_alike hZ195.alike A221.2.1) rfl A221.2.2 ib222 (H221.at ib222 rfl) (g := (mkF m 66 #[.val (.int p1), .val (.int (0 : Int32)), .val (.ref wP), .val (.ref a190), .val (.ref a195), .val (.ref ab204), .unset] [(.int (0 : Int32)), (.ref ab204), (.ref a190)])) rfl rfl (hb hby at_66) t k) ?_
    show OwnGo p e below (T204.setTop (mkF m 67 #[.val (.int p1), .val (.int (0 : Int32)), .val (.ref wP), .val (.ref a190), .val (.ref a195), .val (.ref ab204), .unset] [(.ref kP), (.ref a190)])) _
    obtain ⟨cq223, kq223, q223a, q223b, q223c⟩ := isOf hZ195 rfl (OwnStr.exa (⟨_, _, f210, f211, f212, f213, by decide⟩ : OwnStr Z T204.heap a190 [112, 114, 105, 99, 101]))
    obtain ⟨_, _, ⟨T223, L223, k223, n223⟩, -, X223, ⟨Lc223, hQ223, l223, y223, z223⟩, st223⟩ := X204.virtualBack hx (y := (⟨"java/lang/String", "equals", "(Ljava/lang/Object;)Z"⟩ : MethodName)) (z := (⟨"java/lang/String", "equals", "(Ljava/lang/Object;)Z"⟩ : MethodName)) hown195 (mvT hZ195 (hw _ (List.mem_of_getElem? (i := 36) rfl))) (mvT hZ195 (hw _ (List.mem_of_getElem? (i := 37) rfl))) (notFace_of_selects (args := #[]) (mvT hZ195 (hw _ (List.mem_of_getElem? (i := 39) rfl)))) (mvT hZ195 (hw _ (List.mem_of_getElem? (i := 39) rfl))) (mvT hZ195 (hw _ (List.mem_of_getElem? (i := 38) rfl))) (by decide) (own_backN (W := 0) (rm_seq l Z a0 hw [] a190 kP [112, 114, 105, 99, 101] [112, 114, 105, 99, 101] cz T204.heap n0 Zs207 O205 (⟨_, _, f210, f211, f212, f213, by decide⟩ : OwnStr Z T204.heap a190 [112, 114, 105, 99, 101]) (BP.ext O205.2) SC hcz) hZ195 (hw _ (List.mem_of_getElem? (i := 40) rfl)) (hw _ (List.mem_of_getElem? (i := 4) rfl)) (by decide) (by decide)) q223a q223c (g := (mkF m 67 #[.val (.int p1), .val (.int (0 : Int32)), .val (.ref wP), .val (.ref a190), .val (.ref a195), .val (.ref ab204), .unset] [(.ref kP), (.ref a190)])) rfl (by rw [hml]; rfl) (Steps.refl _) (argsL := [(.ref kP)]) (rest := []) (lenOf lw_pd1 rfl) rfl (by show 2 * 0 + _ ≤ _; exact Nat.le_of_eq rfl) (hb hby at_67) (fun _ _ => ⟨rfl, rfl, Nat.le_of_ble_eq_true rfl, Nat.le_of_ble_eq_true rfl⟩)
    dsimp only [Pt.U, Pt.locs, Pt.cells, Pt.slots] at X223 l223 y223 z223 st223 hQ223
    subst l223 y223 z223
    rw [if_pos (by decide)] at hQ223
    obtain ⟨rfl, N223q, hh223⟩ := hQ223
    refine own_seq st223 ?_
    have N223 := Fr.app N204 N223q
    show OwnGo p e below (T223.setTop (mkF m 70 #[.val (.int p1), .val (.int (0 : Int32)), .val (.ref wP), .val (.ref a190), .val (.ref a195), .val (.ref ab204), .unset] [(.int (1 : Int32))])) _
    refine own_back (fun t k => XS.ifNo X223.here hx rfl (hb hby at_70) rfl (Jvm.Free.XT.i0_eq_f (by decide)) k) ?_
    show OwnGo p e below (T223.setTop (mkF m 73 #[.val (.int p1), .val (.int (0 : Int32)), .val (.ref wP), .val (.ref a190), .val (.ref a195), .val (.ref ab204), .unset] [])) _
    refine own_back (fun t k => XS.aload X223.here hx rfl (hb hby at_73) rfl rfl k) ?_
    show OwnGo p e below (T223.setTop (mkF m 75 #[.val (.int p1), .val (.int (0 : Int32)), .val (.ref wP), .val (.ref a190), .val (.ref a195), .val (.ref ab204), .unset] [(.ref a195)])) _
    refine own_back (fun t k => XS.aload X223.here hx rfl (hb hby at_75) rfl rfl k) ?_
    show OwnGo p e below (T223.setTop (mkF m 77 #[.val (.int p1), .val (.int (0 : Int32)), .val (.ref wP), .val (.ref a190), .val (.ref a195), .val (.ref ab204), .unset] [(.ref ab204), (.ref a195)])) _
    refine own_back (fun t k => XS.iconst X223.here hx rfl (hb hby at_77) k) ?_
    show OwnGo p e below (T223.setTop (mkF m 78 #[.val (.int p1), .val (.int (0 : Int32)), .val (.ref wP), .val (.ref a190), .val (.ref a195), .val (.ref ab204), .unset] [(.int (1 : Int32)), (.ref ab204), (.ref a195)])) _
    refine own_back (fun t k => XS.iloadN X223.here hx rfl (hb hby at_78) rfl k) ?_
    show OwnGo p e below (T223.setTop (mkF m 79 #[.val (.int p1), .val (.int (0 : Int32)), .val (.ref wP), .val (.ref a190), .val (.ref a195), .val (.ref ab204), .unset] [(.int (0 : Int32)), (.int (1 : Int32)), (.ref ab204), (.ref a195)])) _
    refine own_back (fun t k => XS.isub X223.here hx rfl (hb hby at_79) rfl k) ?_
    show OwnGo p e below (T223.setTop (mkF m 80 #[.val (.int p1), .val (.int (0 : Int32)), .val (.ref wP), .val (.ref a190), .val (.ref a195), .val (.ref ab204), .unset] [(.int (1 : Int32)), (.ref ab204), (.ref a195)])) _
    obtain ⟨c224, A224, q224, S224, M224, H224, U224⟩ := id V204
    have ib225 : ¬ ((1 : Int32) < 0 ∨ c224.slots.size ≤ ((1 : Int32)).toNatClampNeg) := (inb_of S224 ⟨by decide, by decide⟩)
    refine own_back (fun t k => X223.aaload hx (j := (1 : Int32)) (v := (.ref kT)) (own_hat hh223 A224.1) (State.isArrayOf_alike hZ195.alike A224.2.1) rfl A224.2.2 ib225 (H224.at ib225 rfl) (g := (mkF m 80 #[.val (.int p1), .val (.int (0 : Int32)), .val (.ref wP), .val (.ref a190), .val (.ref a195), .val (.ref ab204), .unset] [(.int (1 : Int32)), (.ref ab204), (.ref a195)])) rfl rfl (hb hby at_80) t k) ?_
    show OwnGo p e below (T223.setTop (mkF m 81 #[.val (.int p1), .val (.int (0 : Int32)), .val (.ref wP), .val (.ref a190), .val (.ref a195), .val (.ref ab204), .unset] [(.ref kT), (.ref a195)])) _
    obtain ⟨cq226, kq226, q226a, q226b, q226c⟩ := isOf hZ195 hh223 (OwnStr.exa (⟨_, _, f214, f215, f216, f217, by decide⟩ : OwnStr Z T204.heap a195 [116, 111, 116, 97, 108]))
    obtain ⟨_, _, ⟨T226, L226, k226, n226⟩, -, X226, ⟨Lc226, hQ226, l226, y226, z226⟩, st226⟩ := X223.virtualBack hx (y := (⟨"java/lang/String", "equals", "(Ljava/lang/Object;)Z"⟩ : MethodName)) (z := (⟨"java/lang/String", "equals", "(Ljava/lang/Object;)Z"⟩ : MethodName)) hown195 (mvT hZ195 (hw _ (List.mem_of_getElem? (i := 36) rfl))) (mvT hZ195 (hw _ (List.mem_of_getElem? (i := 37) rfl))) (notFace_of_selects (args := #[]) (mvT hZ195 (hw _ (List.mem_of_getElem? (i := 39) rfl)))) (mvT hZ195 (hw _ (List.mem_of_getElem? (i := 39) rfl))) (mvT hZ195 (hw _ (List.mem_of_getElem? (i := 38) rfl))) (by decide) (own_backN (W := 0) (rm_seq l Z a0 hw [] a195 kT [116, 111, 116, 97, 108] [116, 111, 116, 97, 108] cz T204.heap n0 Zs207 O205 (⟨_, _, f214, f215, f216, f217, by decide⟩ : OwnStr Z T204.heap a195 [116, 111, 116, 97, 108]) (BT.ext O205.2) SC hcz) hZ195 (hw _ (List.mem_of_getElem? (i := 40) rfl)) (hw _ (List.mem_of_getElem? (i := 4) rfl)) (by decide) (by decide)) q226a q226c (g := (mkF m 81 #[.val (.int p1), .val (.int (0 : Int32)), .val (.ref wP), .val (.ref a190), .val (.ref a195), .val (.ref ab204), .unset] [(.ref kT), (.ref a195)])) rfl (by rw [hml]; rfl) (Steps.refl _) (argsL := [(.ref kT)]) (rest := []) (lenOf lw_pd1 rfl) rfl (by show 2 * 0 + _ ≤ _; exact Nat.le_of_eq rfl) (hb hby at_81) (fun _ _ => ⟨rfl, hh223, Nat.le_of_ble_eq_true rfl, Nat.le_of_ble_eq_true rfl⟩)
    dsimp only [Pt.U, Pt.locs, Pt.cells, Pt.slots] at X226 l226 y226 z226 st226 hQ226
    subst l226 y226 z226
    rw [if_pos (by decide)] at hQ226
    obtain ⟨rfl, N226q, hh226⟩ := hQ226
    refine own_seq st226 ?_
    have N226 := Fr.app N223 N226q
    show OwnGo p e below (T226.setTop (mkF m 84 #[.val (.int p1), .val (.int (0 : Int32)), .val (.ref wP), .val (.ref a190), .val (.ref a195), .val (.ref ab204), .unset] [(.int (1 : Int32))])) _
    refine own_back (fun t k => XS.ifYes X226.here hx rfl (pc0 := 84) (pc' := 89) rfl (hb hby at_84) rfl (Jvm.Free.XT.i0_ne_t (by decide)) (by decide) (by decide) k) ?_
    show OwnGo p e below (T226.setTop (mkF m 89 #[.val (.int p1), .val (.int (0 : Int32)), .val (.ref wP), .val (.ref a190), .val (.ref a195), .val (.ref ab204), .unset] [])) _
    refine own_back (fun t k => XS.aload X226.here hx rfl (hb hby at_89) rfl rfl k) ?_
    show OwnGo p e below (T226.setTop (mkF m 91 #[.val (.int p1), .val (.int (0 : Int32)), .val (.ref wP), .val (.ref a190), .val (.ref a195), .val (.ref ab204), .unset] [(.ref ab204)])) _
    refine own_back (fun t k => XS.iloadN X226.here hx rfl (hb hby at_91) rfl k) ?_
    show OwnGo p e below (T226.setTop (mkF m 92 #[.val (.int p1), .val (.int (0 : Int32)), .val (.ref wP), .val (.ref a190), .val (.ref a195), .val (.ref ab204), .unset] [(.int (0 : Int32)), (.ref ab204)])) _
    obtain ⟨c227, A227, q227, S227, M227, H227, U227⟩ := id V204
    have ib228 : ¬ ((0 : Int32) < 0 ∨ c227.slots.size ≤ ((0 : Int32)).toNatClampNeg) := (inb_of S227 ⟨by decide, by decide⟩)
    refine own_back (fun t k => X226.aaload hx (j := (0 : Int32)) (v := (.ref kP)) (own_hat hh226 A227.1) (State.isArrayOf_alike hZ195.alike A227.2.1) rfl A227.2.2 ib228 (H227.at ib228 rfl) (g := (mkF m 92 #[.val (.int p1), .val (.int (0 : Int32)), .val (.ref wP), .val (.ref a190), .val (.ref a195), .val (.ref ab204), .unset] [(.int (0 : Int32)), (.ref ab204)])) rfl rfl (hb hby at_92) t k) ?_
    show OwnGo p e below (T226.setTop (mkF m 93 #[.val (.int p1), .val (.int (0 : Int32)), .val (.ref wP), .val (.ref a190), .val (.ref a195), .val (.ref ab204), .unset] [(.ref kP)])) _
    refine own_back (fun t k => XS.aloadN X226.here hx rfl (hb hby at_93) rfl rfl k) ?_
    show OwnGo p e below (T226.setTop (mkF m 94 #[.val (.int p1), .val (.int (0 : Int32)), .val (.ref wP), .val (.ref a190), .val (.ref a195), .val (.ref ab204), .unset] [(.ref wP), (.ref kP)])) _
    obtain ⟨cq229, kq229, q229a, q229b, q229c⟩ := isOf hZ195 hh226 (EP.ext O205.2)
    obtain ⟨_, _, ⟨T229, L229, k229, n229⟩, -, X229, ⟨Lc229, hQ229, l229, y229, z229⟩, st229⟩ := X226.virtualBack hx (y := (⟨"com/example/indexwright/indexwright/bond/BondVariant", "key", "()Ljava/lang/String;"⟩ : MethodName)) (z := (⟨"com/example/indexwright/indexwright/bond/BondVariant", "key", "()Ljava/lang/String;"⟩ : MethodName)) hown195 (mvT hZ195 (hw _ (List.mem_of_getElem? (i := 49) rfl))) (mvT hZ195 (hw _ (List.mem_of_getElem? (i := 50) rfl))) (notFace_of_selects (args := #[]) (mvT hZ195 (hw _ (List.mem_of_getElem? (i := 52) rfl)))) (mvT hZ195 (hw _ (List.mem_of_getElem? (i := 52) rfl))) (mvT hZ195 (hw _ (List.mem_of_getElem? (i := 51) rfl))) (by decide) (own_backN (W := 1) (rm_key l Z a0 hw [] wP kP T204.heap n0 Zs207 (FP.ext O205.2)) hZ195 (hw _ (List.mem_of_getElem? (i := 53) rfl)) (hw _ (List.mem_of_getElem? (i := 1) rfl)) (by decide) (by decide)) q229a q229c (g := (mkF m 94 #[.val (.int p1), .val (.int (0 : Int32)), .val (.ref wP), .val (.ref a190), .val (.ref a195), .val (.ref ab204), .unset] [(.ref wP), (.ref kP)])) rfl (by rw [hml]; rfl) (Steps.refl _) (argsL := []) (rest := [(.ref kP)]) (lenOf lw_pd2 rfl) rfl (by show 2 * 0 + _ ≤ _; exact Nat.le_of_eq rfl) (hb hby at_94) (fun _ _ => ⟨rfl, hh226, Nat.le_of_ble_eq_true rfl, Nat.le_of_ble_eq_true rfl⟩)
    dsimp only [Pt.U, Pt.locs, Pt.cells, Pt.slots] at X229 l229 y229 z229 st229 hQ229
    subst l229 y229 z229
    obtain ⟨rfl, N229q, hh229⟩ := hQ229
    refine own_seq st229 ?_
    have N229 := Fr.app N226 N229q
    show OwnGo p e below (T229.setTop (mkF m 97 #[.val (.int p1), .val (.int (0 : Int32)), .val (.ref wP), .val (.ref a190), .val (.ref a195), .val (.ref ab204), .unset] [(.ref kP), (.ref kP)])) _
    obtain ⟨cq230, kq230, q230a, q230b, q230c⟩ := isOf hZ195 hh229 (BP.ext O205.2).exa
    obtain ⟨_, _, ⟨T230, L230, k230, n230⟩, -, X230, ⟨Lc230, hQ230, l230, y230, z230⟩, st230⟩ := X229.virtualBack hx (y := (⟨"java/lang/String", "equals", "(Ljava/lang/Object;)Z"⟩ : MethodName)) (z := (⟨"java/lang/String", "equals", "(Ljava/lang/Object;)Z"⟩ : MethodName)) hown195 (mvT hZ195 (hw _ (List.mem_of_getElem? (i := 36) rfl))) (mvT hZ195 (hw _ (List.mem_of_getElem? (i := 37) rfl))) (notFace_of_selects (args := #[]) (mvT hZ195 (hw _ (List.mem_of_getElem? (i := 39) rfl)))) (mvT hZ195 (hw _ (List.mem_of_getElem? (i := 39) rfl))) (mvT hZ195 (hw _ (List.mem_of_getElem? (i := 38) rfl))) (by decide) (own_backN (W := 0) (rm_seq l Z a0 hw [] kP kP [112, 114, 105, 99, 101] [112, 114, 105, 99, 101] cz T204.heap n0 Zs207 O205 (BP.ext O205.2) (BP.ext O205.2) SC hcz) hZ195 (hw _ (List.mem_of_getElem? (i := 40) rfl)) (hw _ (List.mem_of_getElem? (i := 4) rfl)) (by decide) (by decide)) q230a q230c (g := (mkF m 97 #[.val (.int p1), .val (.int (0 : Int32)), .val (.ref wP), .val (.ref a190), .val (.ref a195), .val (.ref ab204), .unset] [(.ref kP), (.ref kP)])) rfl (by rw [hml]; rfl) (Steps.refl _) (argsL := [(.ref kP)]) (rest := []) (lenOf lw_pd1 rfl) rfl (by show 2 * 0 + _ ≤ _; exact Nat.le_of_eq rfl) (hb hby at_97) (fun _ _ => ⟨rfl, hh229, Nat.le_of_ble_eq_true rfl, Nat.le_of_ble_eq_true rfl⟩)
    dsimp only [Pt.U, Pt.locs, Pt.cells, Pt.slots] at X230 l230 y230 z230 st230 hQ230
    subst l230 y230 z230
    rw [if_pos (by decide)] at hQ230
    obtain ⟨rfl, N230q, hh230⟩ := hQ230
    refine own_seq st230 ?_
    have N230 := Fr.app N229 N230q
    show OwnGo p e below (T230.setTop (mkF m 100 #[.val (.int p1), .val (.int (0 : Int32)), .val (.ref wP), .val (.ref a190), .val (.ref a195), .val (.ref ab204), .unset] [(.int (1 : Int32))])) _
    refine own_back (fun t k => XS.ifYes X230.here hx rfl (pc0 := 100) (pc' := 105) rfl (hb hby at_100) rfl (Jvm.Free.XT.i0_ne_t (by decide)) (by decide) (by decide) k) ?_
    show OwnGo p e below (T230.setTop (mkF m 105 #[.val (.int p1), .val (.int (0 : Int32)), .val (.ref wP), .val (.ref a190), .val (.ref a195), .val (.ref ab204), .unset] [])) _
    refine own_back (fun t k => XS.aload X230.here hx rfl (hb hby at_105) rfl rfl k) ?_
    show OwnGo p e below (T230.setTop (mkF m 107 #[.val (.int p1), .val (.int (0 : Int32)), .val (.ref wP), .val (.ref a190), .val (.ref a195), .val (.ref ab204), .unset] [(.ref ab204)])) _
    refine own_back (fun t k => XS.iloadN X230.here hx rfl (hb hby at_107) rfl k) ?_
    show OwnGo p e below (T230.setTop (mkF m 108 #[.val (.int p1), .val (.int (0 : Int32)), .val (.ref wP), .val (.ref a190), .val (.ref a195), .val (.ref ab204), .unset] [(.int (0 : Int32)), (.ref ab204)])) _
    obtain ⟨c231, A231, q231, S231, M231, H231, U231⟩ := id V204
    have ib232 : ¬ ((0 : Int32) < 0 ∨ c231.slots.size ≤ ((0 : Int32)).toNatClampNeg) := (inb_of S231 ⟨by decide, by decide⟩)
    refine own_back (fun t k => X230.aaload hx (j := (0 : Int32)) (v := (.ref kP)) (own_hat hh230 A231.1) (State.isArrayOf_alike hZ195.alike A231.2.1) rfl A231.2.2 ib232 (H231.at ib232 rfl) (g := (mkF m 108 #[.val (.int p1), .val (.int (0 : Int32)), .val (.ref wP), .val (.ref a190), .val (.ref a195), .val (.ref ab204), .unset] [(.int (0 : Int32)), (.ref ab204)])) rfl rfl (hb hby at_108) t k) ?_
    show OwnGo p e below (T230.setTop (mkF m 109 #[.val (.int p1), .val (.int (0 : Int32)), .val (.ref wP), .val (.ref a190), .val (.ref a195), .val (.ref ab204), .unset] [(.ref kP)])) _
    obtain ⟨_, _, ⟨T233, L233, k233, n233⟩, -, X233, ⟨Lc233, hQ233, l233, y233, z233⟩, st233⟩ := Jvm.LawKit.callS X230 hx (y := (⟨"com/example/indexwright/indexwright/bond/BondVariant", "of", "(Ljava/lang/String;)Lcom/example/indexwright/indexwright/bond/BondVariant;"⟩ : MethodName)) hown195 (mvT hZ195 (hw _ (List.mem_of_getElem? (i := 54) rfl))) (mvT hZ195 (hw _ (List.mem_of_getElem? (i := 55) rfl))) (mvT hZ195 (hw _ (List.mem_of_getElem? (i := 1) rfl))) (mvT hZ195 (hw _ (List.mem_of_getElem? (i := 56) rfl))) (by decide) (own_backN (W := 0) (rm_of l Z a0 hw [] kP [112, 114, 105, 99, 101] wP wT wV kV kP kT cz T204.heap n0 Zs207 O205 (BP.ext O205.2) SV AV EV FV FP FT BP BT SC hcz) hZ195 (hw _ (List.mem_of_getElem? (i := 56) rfl)) (hw _ (List.mem_of_getElem? (i := 1) rfl)) (by decide) (by decide)) (g := (mkF m 109 #[.val (.int p1), .val (.int (0 : Int32)), .val (.ref wP), .val (.ref a190), .val (.ref a195), .val (.ref ab204), .unset] [(.ref kP)])) rfl (by rw [hml]; rfl) (argsL := [(.ref kP)]) (rest := []) (lenOf lw_pd3 rfl) rfl (by show 2 * 0 + _ ≤ _; exact Nat.le_of_eq rfl) (hb hby at_109) (fun _ _ => ⟨rfl, hh230, Nat.le_of_ble_eq_true rfl, Nat.le_of_ble_eq_true rfl⟩)
    dsimp only [Pt.U, Pt.locs, Pt.cells, Pt.slots] at X233 l233 y233 z233 st233 hQ233
    subst l233 y233 z233
    rw [if_pos rfl] at hQ233
    obtain ⟨rfl, N233q, E233⟩ := hQ233
    refine own_back st233 ?_
    have N233 := Fr.app N230 N233q
    have O234 := O205.ext E233
    have KP235 := KP206.ext E233
    have Zs236 := Nat.le_trans Zs207 E233.1
    have CR237 := CR208.trans (CHr.ext E233 CR208.1)
    have hk238 := Nat.le_trans hk209 E233.1
    have f239 := f210.ext E233
    have f240 := f211.ext E233
    have f241 := f212.ext E233
    have f242 := f213.ext E233
    have f243 := f214.ext E233
    have f244 := f215.ext E233
    have f245 := f216.ext E233
    have f246 := f217.ext E233
    have f247 := V204.ext E233
    show OwnGo p e below (T233.setTop (mkF m 112 #[.val (.int p1), .val (.int (0 : Int32)), .val (.ref wP), .val (.ref a190), .val (.ref a195), .val (.ref ab204), .unset] [(.ref wP)])) _
    refine own_back (fun t k => XS.aloadN X233.here hx rfl (hb hby at_112) rfl rfl k) ?_
    show OwnGo p e below (T233.setTop (mkF m 113 #[.val (.int p1), .val (.int (0 : Int32)), .val (.ref wP), .val (.ref a190), .val (.ref a195), .val (.ref ab204), .unset] [(.ref wP), (.ref wP)])) _
    refine own_back (fun t k => Jvm.RoadKit.acmp (g := (mkF m 113 #[.val (.int p1), .val (.int (0 : Int32)), .val (.ref wP), .val (.ref a190), .val (.ref a195), .val (.ref ab204), .unset] [(.ref wP), (.ref wP)])) X233 hx rfl rfl rfl (pc0 := 113) (pc' := 118) (same := true) rfl (hb hby at_113) rfl (decide_eq_true rfl) (by decide) (by decide) k) ?_
    show OwnGo p e below (T233.setTop (mkF m 118 #[.val (.int p1), .val (.int (0 : Int32)), .val (.ref wP), .val (.ref a190), .val (.ref a195), .val (.ref ab204), .unset] [])) _
    refine own_back (fun t k => XS.aload X233.here hx rfl (hb hby at_118) rfl rfl k) ?_
    show OwnGo p e below (T233.setTop (mkF m 120 #[.val (.int p1), .val (.int (0 : Int32)), .val (.ref wP), .val (.ref a190), .val (.ref a195), .val (.ref ab204), .unset] [(.ref ab204)])) _
    refine own_back (fun t k => XS.iconst X233.here hx rfl (hb hby at_120) k) ?_
    show OwnGo p e below (T233.setTop (mkF m 121 #[.val (.int p1), .val (.int (0 : Int32)), .val (.ref wP), .val (.ref a190), .val (.ref a195), .val (.ref ab204), .unset] [(.int (0 : Int32)), (.ref ab204)])) _
    refine own_back (fun t k => XS.aconstNull X233.here hx rfl (hb hby at_121) k) ?_
    show OwnGo p e below (T233.setTop (mkF m 122 #[.val (.int p1), .val (.int (0 : Int32)), .val (.ref wP), .val (.ref a190), .val (.ref a195), .val (.ref ab204), .unset] [.null, (.int (0 : Int32)), (.ref ab204)])) _
    obtain ⟨c248, A248, q248, S248, M248, H248, U248⟩ := id f247
    obtain ⟨T249, h249, X249, e249, W249, st249⟩ := stR X233 hx hZ195 rfl A248 (j := (0 : Int32)) (inb_of S248 ⟨by decide, by decide⟩) rfl (Or.inl rfl) (g := (mkF m 122 #[.val (.int p1), .val (.int (0 : Int32)), .val (.ref wP), .val (.ref a190), .val (.ref a195), .val (.ref ab204), .unset] [.null, (.int (0 : Int32)), (.ref ab204)])) rfl rfl (hb hby at_122)
    have O250 := O234.wr W249 ge218
    have KP251 := KP235.wr W249 (Or.inr sz219)
    have Zs252 := Nat.le_trans Zs236 (Keep.of_wr W249).1
    have CR253 := CR237.trans (CHr.wr W249 (Safe.arv hZ195.alike f247 (by decide)) CR237.1)
    have hk254 := Nat.le_trans hk238 (Keep.of_wr W249).1
    have f255 := f239.wr W249
    have f256 := f240.other W249 (Or.inl (Exa.neArv f239 f247 (hw _ (List.mem_of_getElem? (i := 5) rfl))))
    have f257 := f241.other W249 (Or.inl (Exa.neArv f239 f247 (hw _ (List.mem_of_getElem? (i := 5) rfl))))
    have f258 := f242.other W249 (own_arv_ne f242 f247 (by decide))
    have f259 := f243.wr W249
    have f260 := f244.other W249 (Or.inl (Exa.neArv f243 f247 (hw _ (List.mem_of_getElem? (i := 5) rfl))))
    have f261 := f245.other W249 (Or.inl (Exa.neArv f243 f247 (hw _ (List.mem_of_getElem? (i := 5) rfl))))
    have f262 := f246.other W249 (own_arv_ne f246 f247 (by decide))
    have V263 : Arv Z h249 ab204 kk204 (.object "java/lang/String") (2 : Int32) [.null, (.ref kT)] .null := Arv.set A248 q248 S248 M248 H248 U248 rfl W249 0 rfl (Nat.le_of_ble_eq_true rfl)
    have N264 := Fr.snoc X249 N233 ge218
    refine own_back st249 ?_
    show OwnGo p e below (T249.setTop (mkF m 123 #[.val (.int p1), .val (.int (0 : Int32)), .val (.ref wP), .val (.ref a190), .val (.ref a195), .val (.ref ab204), .unset] [])) _
    refine own_back (fun t k => XS.aload X249.here hx rfl (hb hby at_123) rfl rfl k) ?_
    show OwnGo p e below (T249.setTop (mkF m 125 #[.val (.int p1), .val (.int (0 : Int32)), .val (.ref wP), .val (.ref a190), .val (.ref a195), .val (.ref ab204), .unset] [(.ref ab204)])) _
    refine own_back (fun t k => XS.iconst X249.here hx rfl (hb hby at_125) k) ?_
    show OwnGo p e below (T249.setTop (mkF m 126 #[.val (.int p1), .val (.int (0 : Int32)), .val (.ref wP), .val (.ref a190), .val (.ref a195), .val (.ref ab204), .unset] [(.int (1 : Int32)), (.ref ab204)])) _
    refine own_back (fun t k => XS.aconstNull X249.here hx rfl (hb hby at_126) k) ?_
    show OwnGo p e below (T249.setTop (mkF m 127 #[.val (.int p1), .val (.int (0 : Int32)), .val (.ref wP), .val (.ref a190), .val (.ref a195), .val (.ref ab204), .unset] [.null, (.int (1 : Int32)), (.ref ab204)])) _
    obtain ⟨c265, A265, q265, S265, M265, H265, U265⟩ := id V263
    obtain ⟨T266, h266, X266, e266, W266, st266⟩ := stR X249 hx hZ195 e249 A265 (j := (1 : Int32)) (inb_of S265 ⟨by decide, by decide⟩) rfl (Or.inl rfl) (g := (mkF m 127 #[.val (.int p1), .val (.int (0 : Int32)), .val (.ref wP), .val (.ref a190), .val (.ref a195), .val (.ref ab204), .unset] [.null, (.int (1 : Int32)), (.ref ab204)])) rfl rfl (hb hby at_127)
    have O267 := O250.wr W266 ge218
    have KP268 := KP251.wr W266 (Or.inr sz219)
    have Zs269 := Nat.le_trans Zs252 (Keep.of_wr W266).1
    have CR270 := CR253.trans (CHr.wr W266 (Safe.arv hZ195.alike V263 (by decide)) CR253.1)
    have hk271 := Nat.le_trans hk254 (Keep.of_wr W266).1
    have f272 := f255.wr W266
    have f273 := f256.other W266 (Or.inl (Exa.neArv f255 V263 (hw _ (List.mem_of_getElem? (i := 5) rfl))))
    have f274 := f257.other W266 (Or.inl (Exa.neArv f255 V263 (hw _ (List.mem_of_getElem? (i := 5) rfl))))
    have f275 := f258.other W266 (own_arv_ne f258 V263 (by decide))
    have f276 := f259.wr W266
    have f277 := f260.other W266 (Or.inl (Exa.neArv f259 V263 (hw _ (List.mem_of_getElem? (i := 5) rfl))))
    have f278 := f261.other W266 (Or.inl (Exa.neArv f259 V263 (hw _ (List.mem_of_getElem? (i := 5) rfl))))
    have f279 := f262.other W266 (own_arv_ne f262 V263 (by decide))
    have V280 : Arv Z h266 ab204 kk204 (.object "java/lang/String") (2 : Int32) [.null, .null] .null := Arv.set A265 q265 S265 M265 H265 U265 rfl W266 1 rfl (Nat.le_of_ble_eq_true rfl)
    have N281 := Fr.snoc X266 N264 ge218
    refine own_back st266 ?_
    show OwnGo p e below (T266.setTop (mkF m 128 #[.val (.int p1), .val (.int (0 : Int32)), .val (.ref wP), .val (.ref a190), .val (.ref a195), .val (.ref ab204), .unset] [])) _
    obtain ⟨_, _, ⟨T282, L282, k282, n282⟩, -, X282, ⟨Lc282, hQ282, l282, y282, z282⟩, st282⟩ := Jvm.LawKit.callS X266 hx (y := (⟨"com/example/indexwright/indexwright/bond/BondVariant", "keys", "()[Ljava/lang/String;"⟩ : MethodName)) hown195 (mvT hZ195 (hw _ (List.mem_of_getElem? (i := 12) rfl))) (mvT hZ195 (hw _ (List.mem_of_getElem? (i := 13) rfl))) (mvT hZ195 (hw _ (List.mem_of_getElem? (i := 1) rfl))) (mvT hZ195 (hw _ (List.mem_of_getElem? (i := 14) rfl))) (by decide) (own_backN (W := 0) (rm_keys l Z a0 hw [] wP wT wV kV kP kT cz h266 n0 Zs269 O267 SV AV EV FV FP FT BP BT SC hcz) hZ195 (hw _ (List.mem_of_getElem? (i := 14) rfl)) (hw _ (List.mem_of_getElem? (i := 1) rfl)) (by decide) (by decide)) (g := (mkF m 128 #[.val (.int p1), .val (.int (0 : Int32)), .val (.ref wP), .val (.ref a190), .val (.ref a195), .val (.ref ab204), .unset] [])) rfl (by rw [hml]; rfl) (argsL := []) (rest := []) (lenOf lw_pd0 rfl) rfl (by show 2 * 0 + _ ≤ _; exact Nat.le_of_eq rfl) (hb hby at_128) (fun _ _ => ⟨rfl, e266, Nat.le_of_ble_eq_true rfl, Nat.le_of_ble_eq_true rfl⟩)
    dsimp only [Pt.U, Pt.locs, Pt.cells, Pt.slots] at X282 l282 y282 z282 st282 hQ282
    subst l282 y282 z282
    obtain ⟨ab282, kk282, rfl, N282q, E282, V282, s282⟩ := hQ282
    refine own_back st282 ?_
    have N282 := Fr.app N281 N282q
    have O283 := O267.ext E282
    have KP284 := KP268.ext E282
    have Zs285 := Nat.le_trans Zs269 E282.1
    have CR286 := CR270.trans (CHr.ext E282 CR270.1)
    have hk287 := Nat.le_trans hk271 E282.1
    have f288 := f272.ext E282
    have f289 := f273.ext E282
    have f290 := f274.ext E282
    have f291 := f275.ext E282
    have f292 := f276.ext E282
    have f293 := f277.ext E282
    have f294 := f278.ext E282
    have f295 := f279.ext E282
    have f296 := V280.ext E282
    have ge297 := Nat.le_trans Zs269 s282
    have sz298 := Nat.le_trans KP268.1 s282
    show OwnGo p e below (T282.setTop (mkF m 131 #[.val (.int p1), .val (.int (0 : Int32)), .val (.ref wP), .val (.ref a190), .val (.ref a195), .val (.ref ab204), .unset] [(.ref ab282)])) _
    refine own_back (fun t k => XS.astore X282.here hx rfl (hb hby at_131) rfl rfl (l' := #[.val (.int p1), .val (.int (0 : Int32)), .val (.ref wP), .val (.ref a190), .val (.ref a195), .val (.ref ab204), .val (.ref ab282)]) rfl k) ?_
    show OwnGo p e below (T282.setTop (mkF m 133 #[.val (.int p1), .val (.int (0 : Int32)), .val (.ref wP), .val (.ref a190), .val (.ref a195), .val (.ref ab204), .val (.ref ab282)] [])) _
    refine own_back (fun t k => XS.aload X282.here hx rfl (hb hby at_133) rfl rfl k) ?_
    show OwnGo p e below (T282.setTop (mkF m 135 #[.val (.int p1), .val (.int (0 : Int32)), .val (.ref wP), .val (.ref a190), .val (.ref a195), .val (.ref ab204), .val (.ref ab282)] [(.ref ab282)])) _
    refine own_back (fun t k => XS.ifnullNo X282.here hx rfl (hb hby at_135) rfl k) ?_
    show OwnGo p e below (T282.setTop (mkF m 138 #[.val (.int p1), .val (.int (0 : Int32)), .val (.ref wP), .val (.ref a190), .val (.ref a195), .val (.ref ab204), .val (.ref ab282)] [])) _
    refine own_back (fun t k => XS.aload X282.here hx rfl (hb hby at_138) rfl rfl k) ?_
    show OwnGo p e below (T282.setTop (mkF m 140 #[.val (.int p1), .val (.int (0 : Int32)), .val (.ref wP), .val (.ref a190), .val (.ref a195), .val (.ref ab204), .val (.ref ab282)] [(.ref ab282)])) _
    obtain ⟨c299, A299, q299, S299, M299, H299, U299⟩ := id V282
    refine own_back (fun t k => X282.arraylength hx (own_hat rfl A299.1) (State.isArrayOf_alike hZ195.alike A299.2.1) (g := (mkF m 140 #[.val (.int p1), .val (.int (0 : Int32)), .val (.ref wP), .val (.ref a190), .val (.ref a195), .val (.ref ab204), .val (.ref ab282)] [(.ref ab282)])) rfl rfl (hb hby at_140) t k) ?_
    rw [len_of S299 M299]
    show OwnGo p e below (T282.setTop (mkF m 141 #[.val (.int p1), .val (.int (0 : Int32)), .val (.ref wP), .val (.ref a190), .val (.ref a195), .val (.ref ab204), .val (.ref ab282)] [(.int (2 : Int32))])) _
    refine own_back (fun t k => XS.iconst X282.here hx rfl (hb hby at_141) k) ?_
    show OwnGo p e below (T282.setTop (mkF m 142 #[.val (.int p1), .val (.int (0 : Int32)), .val (.ref wP), .val (.ref a190), .val (.ref a195), .val (.ref ab204), .val (.ref ab282)] [(.int (2 : Int32)), (.int (2 : Int32))])) _
    refine own_back (fun t k => XS.icmpNo X282.here hx rfl (hb hby at_142) rfl (Jvm.Free.XT.ii_ne_f (by decide)) k) ?_
    show OwnGo p e below (T282.setTop (mkF m 145 #[.val (.int p1), .val (.int (0 : Int32)), .val (.ref wP), .val (.ref a190), .val (.ref a195), .val (.ref ab204), .val (.ref ab282)] [])) _
    refine own_back (fun t k => XS.aloadN X282.here hx rfl (hb hby at_145) rfl rfl k) ?_
    show OwnGo p e below (T282.setTop (mkF m 146 #[.val (.int p1), .val (.int (0 : Int32)), .val (.ref wP), .val (.ref a190), .val (.ref a195), .val (.ref ab204), .val (.ref ab282)] [(.ref a190)])) _
    refine own_back (fun t k => XS.aload X282.here hx rfl (hb hby at_146) rfl rfl k) ?_
    show OwnGo p e below (T282.setTop (mkF m 148 #[.val (.int p1), .val (.int (0 : Int32)), .val (.ref wP), .val (.ref a190), .val (.ref a195), .val (.ref ab204), .val (.ref ab282)] [(.ref ab282), (.ref a190)])) _
    refine own_back (fun t k => XS.iloadN X282.here hx rfl (hb hby at_148) rfl k) ?_
    show OwnGo p e below (T282.setTop (mkF m 149 #[.val (.int p1), .val (.int (0 : Int32)), .val (.ref wP), .val (.ref a190), .val (.ref a195), .val (.ref ab204), .val (.ref ab282)] [(.int (0 : Int32)), (.ref ab282), (.ref a190)])) _
    obtain ⟨c300, A300, q300, S300, M300, H300, U300⟩ := id V282
    have ib301 : ¬ ((0 : Int32) < 0 ∨ c300.slots.size ≤ ((0 : Int32)).toNatClampNeg) := (inb_of S300 ⟨by decide, by decide⟩)
    refine own_back (fun t k => X282.aaload hx (j := (0 : Int32)) (v := (.ref kP)) (own_hat rfl A300.1) (State.isArrayOf_alike hZ195.alike A300.2.1) rfl A300.2.2 ib301 (H300.at ib301 rfl) (g := (mkF m 149 #[.val (.int p1), .val (.int (0 : Int32)), .val (.ref wP), .val (.ref a190), .val (.ref a195), .val (.ref ab204), .val (.ref ab282)] [(.int (0 : Int32)), (.ref ab282), (.ref a190)])) rfl rfl (hb hby at_149) t k) ?_
    show OwnGo p e below (T282.setTop (mkF m 150 #[.val (.int p1), .val (.int (0 : Int32)), .val (.ref wP), .val (.ref a190), .val (.ref a195), .val (.ref ab204), .val (.ref ab282)] [(.ref kP), (.ref a190)])) _
    obtain ⟨cq302, kq302, q302a, q302b, q302c⟩ := isOf hZ195 rfl (OwnStr.exa (⟨_, _, f288, f289, f290, f291, by decide⟩ : OwnStr Z T282.heap a190 [112, 114, 105, 99, 101]))
    obtain ⟨_, _, ⟨T302, L302, k302, n302⟩, -, X302, ⟨Lc302, hQ302, l302, y302, z302⟩, st302⟩ := X282.virtualBack hx (y := (⟨"java/lang/String", "equals", "(Ljava/lang/Object;)Z"⟩ : MethodName)) (z := (⟨"java/lang/String", "equals", "(Ljava/lang/Object;)Z"⟩ : MethodName)) hown195 (mvT hZ195 (hw _ (List.mem_of_getElem? (i := 36) rfl))) (mvT hZ195 (hw _ (List.mem_of_getElem? (i := 37) rfl))) (notFace_of_selects (args := #[]) (mvT hZ195 (hw _ (List.mem_of_getElem? (i := 39) rfl)))) (mvT hZ195 (hw _ (List.mem_of_getElem? (i := 39) rfl))) (mvT hZ195 (hw _ (List.mem_of_getElem? (i := 38) rfl))) (by decide) (own_backN (W := 0) (rm_seq l Z a0 hw [] a190 kP [112, 114, 105, 99, 101] [112, 114, 105, 99, 101] cz T282.heap n0 Zs285 O283 (⟨_, _, f288, f289, f290, f291, by decide⟩ : OwnStr Z T282.heap a190 [112, 114, 105, 99, 101]) (BP.ext O283.2) SC hcz) hZ195 (hw _ (List.mem_of_getElem? (i := 40) rfl)) (hw _ (List.mem_of_getElem? (i := 4) rfl)) (by decide) (by decide)) q302a q302c (g := (mkF m 150 #[.val (.int p1), .val (.int (0 : Int32)), .val (.ref wP), .val (.ref a190), .val (.ref a195), .val (.ref ab204), .val (.ref ab282)] [(.ref kP), (.ref a190)])) rfl (by rw [hml]; rfl) (Steps.refl _) (argsL := [(.ref kP)]) (rest := []) (lenOf lw_pd1 rfl) rfl (by show 2 * 0 + _ ≤ _; exact Nat.le_of_eq rfl) (hb hby at_150) (fun _ _ => ⟨rfl, rfl, Nat.le_of_ble_eq_true rfl, Nat.le_of_ble_eq_true rfl⟩)
    dsimp only [Pt.U, Pt.locs, Pt.cells, Pt.slots] at X302 l302 y302 z302 st302 hQ302
    subst l302 y302 z302
    rw [if_pos (by decide)] at hQ302
    obtain ⟨rfl, N302q, hh302⟩ := hQ302
    refine own_seq st302 ?_
    have N302 := Fr.app N282 N302q
    show OwnGo p e below (T302.setTop (mkF m 153 #[.val (.int p1), .val (.int (0 : Int32)), .val (.ref wP), .val (.ref a190), .val (.ref a195), .val (.ref ab204), .val (.ref ab282)] [(.int (1 : Int32))])) _
    refine own_back (fun t k => XS.ifNo X302.here hx rfl (hb hby at_153) rfl (Jvm.Free.XT.i0_eq_f (by decide)) k) ?_
    show OwnGo p e below (T302.setTop (mkF m 156 #[.val (.int p1), .val (.int (0 : Int32)), .val (.ref wP), .val (.ref a190), .val (.ref a195), .val (.ref ab204), .val (.ref ab282)] [])) _
    refine own_back (fun t k => XS.aload X302.here hx rfl (hb hby at_156) rfl rfl k) ?_
    show OwnGo p e below (T302.setTop (mkF m 158 #[.val (.int p1), .val (.int (0 : Int32)), .val (.ref wP), .val (.ref a190), .val (.ref a195), .val (.ref ab204), .val (.ref ab282)] [(.ref a195)])) _
    refine own_back (fun t k => XS.aload X302.here hx rfl (hb hby at_158) rfl rfl k) ?_
    show OwnGo p e below (T302.setTop (mkF m 160 #[.val (.int p1), .val (.int (0 : Int32)), .val (.ref wP), .val (.ref a190), .val (.ref a195), .val (.ref ab204), .val (.ref ab282)] [(.ref ab282), (.ref a195)])) _
    refine own_back (fun t k => XS.iconst X302.here hx rfl (hb hby at_160) k) ?_
    show OwnGo p e below (T302.setTop (mkF m 161 #[.val (.int p1), .val (.int (0 : Int32)), .val (.ref wP), .val (.ref a190), .val (.ref a195), .val (.ref ab204), .val (.ref ab282)] [(.int (1 : Int32)), (.ref ab282), (.ref a195)])) _
    refine own_back (fun t k => XS.iloadN X302.here hx rfl (hb hby at_161) rfl k) ?_
    show OwnGo p e below (T302.setTop (mkF m 162 #[.val (.int p1), .val (.int (0 : Int32)), .val (.ref wP), .val (.ref a190), .val (.ref a195), .val (.ref ab204), .val (.ref ab282)] [(.int (0 : Int32)), (.int (1 : Int32)), (.ref ab282), (.ref a195)])) _
    refine own_back (fun t k => XS.isub X302.here hx rfl (hb hby at_162) rfl k) ?_
    show OwnGo p e below (T302.setTop (mkF m 163 #[.val (.int p1), .val (.int (0 : Int32)), .val (.ref wP), .val (.ref a190), .val (.ref a195), .val (.ref ab204), .val (.ref ab282)] [(.int (1 : Int32)), (.ref ab282), (.ref a195)])) _
    obtain ⟨c303, A303, q303, S303, M303, H303, U303⟩ := id V282
    have ib304 : ¬ ((1 : Int32) < 0 ∨ c303.slots.size ≤ ((1 : Int32)).toNatClampNeg) := (inb_of S303 ⟨by decide, by decide⟩)
    refine own_back (fun t k => X302.aaload hx (j := (1 : Int32)) (v := (.ref kT)) (own_hat hh302 A303.1) (State.isArrayOf_alike hZ195.alike A303.2.1) rfl A303.2.2 ib304 (H303.at ib304 rfl) (g := (mkF m 163 #[.val (.int p1), .val (.int (0 : Int32)), .val (.ref wP), .val (.ref a190), .val (.ref a195), .val (.ref ab204), .val (.ref ab282)] [(.int (1 : Int32)), (.ref ab282), (.ref a195)])) rfl rfl (hb hby at_163) t k) ?_
    show OwnGo p e below (T302.setTop (mkF m 164 #[.val (.int p1), .val (.int (0 : Int32)), .val (.ref wP), .val (.ref a190), .val (.ref a195), .val (.ref ab204), .val (.ref ab282)] [(.ref kT), (.ref a195)])) _
    obtain ⟨cq305, kq305, q305a, q305b, q305c⟩ := isOf hZ195 hh302 (OwnStr.exa (⟨_, _, f292, f293, f294, f295, by decide⟩ : OwnStr Z T282.heap a195 [116, 111, 116, 97, 108]))
    obtain ⟨_, _, ⟨T305, L305, k305, n305⟩, -, X305, ⟨Lc305, hQ305, l305, y305, z305⟩, st305⟩ := X302.virtualBack hx (y := (⟨"java/lang/String", "equals", "(Ljava/lang/Object;)Z"⟩ : MethodName)) (z := (⟨"java/lang/String", "equals", "(Ljava/lang/Object;)Z"⟩ : MethodName)) hown195 (mvT hZ195 (hw _ (List.mem_of_getElem? (i := 36) rfl))) (mvT hZ195 (hw _ (List.mem_of_getElem? (i := 37) rfl))) (notFace_of_selects (args := #[]) (mvT hZ195 (hw _ (List.mem_of_getElem? (i := 39) rfl)))) (mvT hZ195 (hw _ (List.mem_of_getElem? (i := 39) rfl))) (mvT hZ195 (hw _ (List.mem_of_getElem? (i := 38) rfl))) (by decide) (own_backN (W := 0) (rm_seq l Z a0 hw [] a195 kT [116, 111, 116, 97, 108] [116, 111, 116, 97, 108] cz T282.heap n0 Zs285 O283 (⟨_, _, f292, f293, f294, f295, by decide⟩ : OwnStr Z T282.heap a195 [116, 111, 116, 97, 108]) (BT.ext O283.2) SC hcz) hZ195 (hw _ (List.mem_of_getElem? (i := 40) rfl)) (hw _ (List.mem_of_getElem? (i := 4) rfl)) (by decide) (by decide)) q305a q305c (g := (mkF m 164 #[.val (.int p1), .val (.int (0 : Int32)), .val (.ref wP), .val (.ref a190), .val (.ref a195), .val (.ref ab204), .val (.ref ab282)] [(.ref kT), (.ref a195)])) rfl (by rw [hml]; rfl) (Steps.refl _) (argsL := [(.ref kT)]) (rest := []) (lenOf lw_pd1 rfl) rfl (by show 2 * 0 + _ ≤ _; exact Nat.le_of_eq rfl) (hb hby at_164) (fun _ _ => ⟨rfl, hh302, Nat.le_of_ble_eq_true rfl, Nat.le_of_ble_eq_true rfl⟩)
    dsimp only [Pt.U, Pt.locs, Pt.cells, Pt.slots] at X305 l305 y305 z305 st305 hQ305
    subst l305 y305 z305
    rw [if_pos (by decide)] at hQ305
    obtain ⟨rfl, N305q, hh305⟩ := hQ305
    refine own_seq st305 ?_
    have N305 := Fr.app N302 N305q
    show OwnGo p e below (T305.setTop (mkF m 167 #[.val (.int p1), .val (.int (0 : Int32)), .val (.ref wP), .val (.ref a190), .val (.ref a195), .val (.ref ab204), .val (.ref ab282)] [(.int (1 : Int32))])) _
    refine own_back (fun t k => XS.ifNo X305.here hx rfl (hb hby at_167) rfl (Jvm.Free.XT.i0_eq_f (by decide)) k) ?_
    show OwnGo p e below (T305.setTop (mkF m 170 #[.val (.int p1), .val (.int (0 : Int32)), .val (.ref wP), .val (.ref a190), .val (.ref a195), .val (.ref ab204), .val (.ref ab282)] [])) _
    refine own_back (fun t k => XS.iconst X305.here hx rfl (hb hby at_170) k) ?_
    show OwnGo p e below (T305.setTop (mkF m 171 #[.val (.int p1), .val (.int (0 : Int32)), .val (.ref wP), .val (.ref a190), .val (.ref a195), .val (.ref ab204), .val (.ref ab282)] [(.int (1 : Int32))])) _
    refine own_back (fun t k => XS.goto X305.here hx rfl (pc0 := 171) (pc' := 175) rfl (hb hby at_171) (by decide) (by decide) k) ?_
    show OwnGo p e below (T305.setTop (mkF m 175 #[.val (.int p1), .val (.int (0 : Int32)), .val (.ref wP), .val (.ref a190), .val (.ref a195), .val (.ref ab204), .val (.ref ab282)] [(.int (1 : Int32))])) _
    refine own_retNW X305 hx Bd.notSynchronized (t := .boolean) (z := (1 : Int32)) Bd.returns (by simp) rfl hS195 hk287 hZ195 hEL (hh ▸ CR286) (hb hby at_175) hh305 (Nat.le_of_ble_eq_true rfl) (Nat.le_of_ble_eq_true rfl) ?_
    exact ⟨rfl, N305⟩
  · rw [hi]
    show OwnGo p e below (s₁.setTop (mkF m 4 #[.val (.int p1), .val (.int (1 : Int32)), .unset, .unset, .unset, .unset, .unset] [])) _
    refine own_back (fun t k => XS.iloadN X0.here hx rfl (hb hby at_4) rfl k) ?_
    show OwnGo p e below (s₁.setTop (mkF m 5 #[.val (.int p1), .val (.int (1 : Int32)), .unset, .unset, .unset, .unset, .unset] [(.int (1 : Int32))])) _
    refine own_back (fun t k => XS.ifYes X0.here hx rfl (pc0 := 5) (pc' := 14) rfl (hb hby at_5) rfl (Jvm.Free.XT.i0_ne_t (by decide)) (by decide) (by decide) k) ?_
    show OwnGo p e below (s₁.setTop (mkF m 14 #[.val (.int p1), .val (.int (1 : Int32)), .unset, .unset, .unset, .unset, .unset] [])) _
    obtain ⟨T306, X306, e306, st306⟩ := getS2 X0 hx hZ hown (host := "") (Or.inl (hw _ (List.mem_of_getElem? (i := 58) rfl))) Via.refl e0 (ST.ext OL.2) (g := (mkF m 14 #[.val (.int p1), .val (.int (1 : Int32)), .unset, .unset, .unset, .unset, .unset] [])) rfl (hb hby at_14)
    refine own_back st306 ?_
    show OwnGo p e below (T306.setTop (mkF m 17 #[.val (.int p1), .val (.int (1 : Int32)), .unset, .unset, .unset, .unset, .unset] [(.ref wT)])) _
    refine own_back (fun t k => XS.astoreN X306.here hx rfl (hb hby at_17) rfl rfl (l' := #[.val (.int p1), .val (.int (1 : Int32)), .val (.ref wT), .unset, .unset, .unset, .unset]) rfl k) ?_
    show OwnGo p e below (T306.setTop (mkF m 18 #[.val (.int p1), .val (.int (1 : Int32)), .val (.ref wT), .unset, .unset, .unset, .unset] [])) _
    refine own_back (fun t k => XS.iloadN X306.here hx rfl (hb hby at_18) rfl k) ?_
    show OwnGo p e below (T306.setTop (mkF m 19 #[.val (.int p1), .val (.int (1 : Int32)), .val (.ref wT), .unset, .unset, .unset, .unset] [(.int (1 : Int32))])) _
    refine own_back (fun t k => XS.ifYes X306.here hx rfl (pc0 := 19) (pc' := 27) rfl (hb hby at_19) rfl (Jvm.Free.XT.i0_ne_t (by decide)) (by decide) (by decide) k) ?_
    show OwnGo p e below (T306.setTop (mkF m 27 #[.val (.int p1), .val (.int (1 : Int32)), .val (.ref wT), .unset, .unset, .unset, .unset] [])) _
    obtain ⟨a307, T307, h307, k1307, t307, kb307, X307, e307, E307, hS307, hk307, hZ307, hown307, EX307, FC307, FV307, AV307, la307, lb307, CRl307, hLit307, sx307, st307⟩ := ldcCH X306 hx hZ hown (hw _ (List.mem_of_getElem? (i := 11) rfl)) (own_wS hw) e306 hS0 hk0 hEL (List.mem_of_getElem? (i := 1) rfl) CR0.1 (vs := [(.int 116), (.int 111), (.int 116), (.int 97), (.int 108)]) (z := 5) ⟨by decide, by decide⟩ (by decide) (by decide) (g := (mkF m 27 #[.val (.int p1), .val (.int (1 : Int32)), .val (.ref wT), .unset, .unset, .unset, .unset] [])) rfl (hb hby at_27) (n := 20) (Nat.le_of_ble_eq_true rfl) (by decide) (Nat.le_of_ble_eq_true rfl) (Nat.le_of_ble_eq_true rfl)
    have O308 := OL.ext E307
    have KP309 := KP0.ext E307
    have Zs310 := Nat.le_trans Z0 E307.1
    have CR311 := CR0.trans CRl307
    refine own_back st307 ?_
    show OwnGo p e below (T307.setTop (mkF m 29 #[.val (.int p1), .val (.int (1 : Int32)), .val (.ref wT), .unset, .unset, .unset, .unset] [(.ref a307)])) _
    refine own_back (fun t k => XS.astoreN X307.here hx rfl (hb hby at_29) rfl rfl (l' := #[.val (.int p1), .val (.int (1 : Int32)), .val (.ref wT), .val (.ref a307), .unset, .unset, .unset]) rfl k) ?_
    show OwnGo p e below (T307.setTop (mkF m 30 #[.val (.int p1), .val (.int (1 : Int32)), .val (.ref wT), .val (.ref a307), .unset, .unset, .unset] [])) _
    refine own_back (fun t k => XS.iloadN X307.here hx rfl (hb hby at_30) rfl k) ?_
    show OwnGo p e below (T307.setTop (mkF m 31 #[.val (.int p1), .val (.int (1 : Int32)), .val (.ref wT), .val (.ref a307), .unset, .unset, .unset] [(.int (1 : Int32))])) _
    refine own_back (fun t k => XS.ifYes X307.here hx rfl (pc0 := 31) (pc' := 39) rfl (hb hby at_31) rfl (Jvm.Free.XT.i0_ne_t (by decide)) (by decide) (by decide) k) ?_
    show OwnGo p e below (T307.setTop (mkF m 39 #[.val (.int p1), .val (.int (1 : Int32)), .val (.ref wT), .val (.ref a307), .unset, .unset, .unset] [])) _
    obtain ⟨a312, T312, h312, k1312, t312, kb312, X312, e312, E312, hS312, hk312, hZ312, hown312, EX312, FC312, FV312, AV312, la312, lb312, CRl312, hLit312, sx312, st312⟩ := ldcCH X307 hx hZ307 hown307 (hw _ (List.mem_of_getElem? (i := 3) rfl)) (own_wS hw) e307 hS307 hk307 hEL (List.mem_of_getElem? (i := 0) rfl) CR311.1 (vs := [(.int 112), (.int 114), (.int 105), (.int 99), (.int 101)]) (z := 5) ⟨by decide, by decide⟩ (by decide) (by decide) (g := (mkF m 39 #[.val (.int p1), .val (.int (1 : Int32)), .val (.ref wT), .val (.ref a307), .unset, .unset, .unset] [])) rfl (hb hby at_39) (n := 20) (Nat.le_of_ble_eq_true rfl) (by decide) (Nat.le_of_ble_eq_true rfl) (Nat.le_of_ble_eq_true rfl)
    have O313 := O308.ext E312
    have KP314 := KP309.ext E312
    have Zs315 := Nat.le_trans Zs310 E312.1
    have CR316 := CR311.trans CRl312
    have f317 := EX307.ext E312
    have f318 := FC307.ext E312
    have f319 := FV307.ext E312
    have f320 := AV307.ext E312
    refine own_back st312 ?_
    show OwnGo p e below (T312.setTop (mkF m 41 #[.val (.int p1), .val (.int (1 : Int32)), .val (.ref wT), .val (.ref a307), .unset, .unset, .unset] [(.ref a312)])) _
    refine own_back (fun t k => XS.astore X312.here hx rfl (hb hby at_41) rfl rfl (l' := #[.val (.int p1), .val (.int (1 : Int32)), .val (.ref wT), .val (.ref a307), .val (.ref a312), .unset, .unset]) rfl k) ?_
    show OwnGo p e below (T312.setTop (mkF m 43 #[.val (.int p1), .val (.int (1 : Int32)), .val (.ref wT), .val (.ref a307), .val (.ref a312), .unset, .unset] [])) _
    obtain ⟨_, _, ⟨T321, L321, k321, n321⟩, -, X321, ⟨Lc321, hQ321, l321, y321, z321⟩, st321⟩ := Jvm.LawKit.callS X312 hx (y := (⟨"com/example/indexwright/indexwright/bond/BondVariant", "keys", "()[Ljava/lang/String;"⟩ : MethodName)) hown312 (mvT hZ312 (hw _ (List.mem_of_getElem? (i := 12) rfl))) (mvT hZ312 (hw _ (List.mem_of_getElem? (i := 13) rfl))) (mvT hZ312 (hw _ (List.mem_of_getElem? (i := 1) rfl))) (mvT hZ312 (hw _ (List.mem_of_getElem? (i := 14) rfl))) (by decide) (own_backN (W := 0) (rm_keys l Z a0 hw [] wP wT wV kV kP kT cz h312 n0 Zs315 O313 SV AV EV FV FP FT BP BT SC hcz) hZ312 (hw _ (List.mem_of_getElem? (i := 14) rfl)) (hw _ (List.mem_of_getElem? (i := 1) rfl)) (by decide) (by decide)) (g := (mkF m 43 #[.val (.int p1), .val (.int (1 : Int32)), .val (.ref wT), .val (.ref a307), .val (.ref a312), .unset, .unset] [])) rfl (by rw [hml]; rfl) (argsL := []) (rest := []) (lenOf lw_pd0 rfl) rfl (by show 2 * 0 + _ ≤ _; exact Nat.le_of_eq rfl) (hb hby at_43) (fun _ _ => ⟨rfl, e312, Nat.le_of_ble_eq_true rfl, Nat.le_of_ble_eq_true rfl⟩)
    dsimp only [Pt.U, Pt.locs, Pt.cells, Pt.slots] at X321 l321 y321 z321 st321 hQ321
    subst l321 y321 z321
    obtain ⟨ab321, kk321, rfl, N321q, E321, V321, s321⟩ := hQ321
    refine own_back st321 ?_
    have N321 := Fr.app N0 N321q
    have O322 := O313.ext E321
    have KP323 := KP314.ext E321
    have Zs324 := Nat.le_trans Zs315 E321.1
    have CR325 := CR316.trans (CHr.ext E321 CR316.1)
    have hk326 := Nat.le_trans hk312 E321.1
    have f327 := f317.ext E321
    have f328 := f318.ext E321
    have f329 := f319.ext E321
    have f330 := f320.ext E321
    have f331 := EX312.ext E321
    have f332 := FC312.ext E321
    have f333 := FV312.ext E321
    have f334 := AV312.ext E321
    have ge335 := Nat.le_trans Zs315 s321
    have sz336 := Nat.le_trans KP314.1 s321
    show OwnGo p e below (T321.setTop (mkF m 46 #[.val (.int p1), .val (.int (1 : Int32)), .val (.ref wT), .val (.ref a307), .val (.ref a312), .unset, .unset] [(.ref ab321)])) _
    refine own_back (fun t k => XS.astore X321.here hx rfl (hb hby at_46) rfl rfl (l' := #[.val (.int p1), .val (.int (1 : Int32)), .val (.ref wT), .val (.ref a307), .val (.ref a312), .val (.ref ab321), .unset]) rfl k) ?_
    show OwnGo p e below (T321.setTop (mkF m 48 #[.val (.int p1), .val (.int (1 : Int32)), .val (.ref wT), .val (.ref a307), .val (.ref a312), .val (.ref ab321), .unset] [])) _
    refine own_back (fun t k => XS.aload X321.here hx rfl (hb hby at_48) rfl rfl k) ?_
    show OwnGo p e below (T321.setTop (mkF m 50 #[.val (.int p1), .val (.int (1 : Int32)), .val (.ref wT), .val (.ref a307), .val (.ref a312), .val (.ref ab321), .unset] [(.ref ab321)])) _
    refine own_back (fun t k => XS.ifnullNo X321.here hx rfl (hb hby at_50) rfl k) ?_
    show OwnGo p e below (T321.setTop (mkF m 53 #[.val (.int p1), .val (.int (1 : Int32)), .val (.ref wT), .val (.ref a307), .val (.ref a312), .val (.ref ab321), .unset] [])) _
    refine own_back (fun t k => XS.aload X321.here hx rfl (hb hby at_53) rfl rfl k) ?_
    show OwnGo p e below (T321.setTop (mkF m 55 #[.val (.int p1), .val (.int (1 : Int32)), .val (.ref wT), .val (.ref a307), .val (.ref a312), .val (.ref ab321), .unset] [(.ref ab321)])) _
    obtain ⟨c337, A337, q337, S337, M337, H337, U337⟩ := id V321
    refine own_back (fun t k => X321.arraylength hx (own_hat rfl A337.1) (State.isArrayOf_alike hZ312.alike A337.2.1) (g := (mkF m 55 #[.val (.int p1), .val (.int (1 : Int32)), .val (.ref wT), .val (.ref a307), .val (.ref a312), .val (.ref ab321), .unset] [(.ref ab321)])) rfl rfl (hb hby at_55) t k) ?_
    rw [len_of S337 M337]
    show OwnGo p e below (T321.setTop (mkF m 56 #[.val (.int p1), .val (.int (1 : Int32)), .val (.ref wT), .val (.ref a307), .val (.ref a312), .val (.ref ab321), .unset] [(.int (2 : Int32))])) _
    refine own_back (fun t k => XS.iconst X321.here hx rfl (hb hby at_56) k) ?_
    show OwnGo p e below (T321.setTop (mkF m 57 #[.val (.int p1), .val (.int (1 : Int32)), .val (.ref wT), .val (.ref a307), .val (.ref a312), .val (.ref ab321), .unset] [(.int (2 : Int32)), (.int (2 : Int32))])) _
    refine own_back (fun t k => XS.icmpYes X321.here hx rfl (pc0 := 57) (pc' := 62) rfl (hb hby at_57) rfl (Jvm.Free.XT.ii_eq_t (by decide)) (by decide) (by decide) k) ?_
    show OwnGo p e below (T321.setTop (mkF m 62 #[.val (.int p1), .val (.int (1 : Int32)), .val (.ref wT), .val (.ref a307), .val (.ref a312), .val (.ref ab321), .unset] [])) _
    refine own_back (fun t k => XS.aloadN X321.here hx rfl (hb hby at_62) rfl rfl k) ?_
    show OwnGo p e below (T321.setTop (mkF m 63 #[.val (.int p1), .val (.int (1 : Int32)), .val (.ref wT), .val (.ref a307), .val (.ref a312), .val (.ref ab321), .unset] [(.ref a307)])) _
    refine own_back (fun t k => XS.aload X321.here hx rfl (hb hby at_63) rfl rfl k) ?_
    show OwnGo p e below (T321.setTop (mkF m 65 #[.val (.int p1), .val (.int (1 : Int32)), .val (.ref wT), .val (.ref a307), .val (.ref a312), .val (.ref ab321), .unset] [(.ref ab321), (.ref a307)])) _
    refine own_back (fun t k => XS.iloadN X321.here hx rfl (hb hby at_65) rfl k) ?_
    show OwnGo p e below (T321.setTop (mkF m 66 #[.val (.int p1), .val (.int (1 : Int32)), .val (.ref wT), .val (.ref a307), .val (.ref a312), .val (.ref ab321), .unset] [(.int (1 : Int32)), (.ref ab321), (.ref a307)])) _
    obtain ⟨c338, A338, q338, S338, M338, H338, U338⟩ := id V321
    have ib339 : ¬ ((1 : Int32) < 0 ∨ c338.slots.size ≤ ((1 : Int32)).toNatClampNeg) := (inb_of S338 ⟨by decide, by decide⟩)
    refine own_back (fun t k => X321.aaload hx (j := (1 : Int32)) (v := (.ref kT)) (own_hat rfl A338.1) (State.isArrayOf_alike hZ312.alike A338.2.1) rfl A338.2.2 ib339 (H338.at ib339 rfl) (g := (mkF m 66 #[.val (.int p1), .val (.int (1 : Int32)), .val (.ref wT), .val (.ref a307), .val (.ref a312), .val (.ref ab321), .unset] [(.int (1 : Int32)), (.ref ab321), (.ref a307)])) rfl rfl (hb hby at_66) t k) ?_
    show OwnGo p e below (T321.setTop (mkF m 67 #[.val (.int p1), .val (.int (1 : Int32)), .val (.ref wT), .val (.ref a307), .val (.ref a312), .val (.ref ab321), .unset] [(.ref kT), (.ref a307)])) _
    obtain ⟨cq340, kq340, q340a, q340b, q340c⟩ := isOf hZ312 rfl (OwnStr.exa (⟨_, _, f327, f328, f329, f330, by decide⟩ : OwnStr Z T321.heap a307 [116, 111, 116, 97, 108]))
    obtain ⟨_, _, ⟨T340, L340, k340, n340⟩, -, X340, ⟨Lc340, hQ340, l340, y340, z340⟩, st340⟩ := X321.virtualBack hx (y := (⟨"java/lang/String", "equals", "(Ljava/lang/Object;)Z"⟩ : MethodName)) (z := (⟨"java/lang/String", "equals", "(Ljava/lang/Object;)Z"⟩ : MethodName)) hown312 (mvT hZ312 (hw _ (List.mem_of_getElem? (i := 36) rfl))) (mvT hZ312 (hw _ (List.mem_of_getElem? (i := 37) rfl))) (notFace_of_selects (args := #[]) (mvT hZ312 (hw _ (List.mem_of_getElem? (i := 39) rfl)))) (mvT hZ312 (hw _ (List.mem_of_getElem? (i := 39) rfl))) (mvT hZ312 (hw _ (List.mem_of_getElem? (i := 38) rfl))) (by decide) (own_backN (W := 0) (rm_seq l Z a0 hw [] a307 kT [116, 111, 116, 97, 108] [116, 111, 116, 97, 108] cz T321.heap n0 Zs324 O322 (⟨_, _, f327, f328, f329, f330, by decide⟩ : OwnStr Z T321.heap a307 [116, 111, 116, 97, 108]) (BT.ext O322.2) SC hcz) hZ312 (hw _ (List.mem_of_getElem? (i := 40) rfl)) (hw _ (List.mem_of_getElem? (i := 4) rfl)) (by decide) (by decide)) q340a q340c (g := (mkF m 67 #[.val (.int p1), .val (.int (1 : Int32)), .val (.ref wT), .val (.ref a307), .val (.ref a312), .val (.ref ab321), .unset] [(.ref kT), (.ref a307)])) rfl (by rw [hml]; rfl) (Steps.refl _) (argsL := [(.ref kT)]) (rest := []) (lenOf lw_pd1 rfl) rfl (by show 2 * 0 + _ ≤ _; exact Nat.le_of_eq rfl) (hb hby at_67) (fun _ _ => ⟨rfl, rfl, Nat.le_of_ble_eq_true rfl, Nat.le_of_ble_eq_true rfl⟩)
    dsimp only [Pt.U, Pt.locs, Pt.cells, Pt.slots] at X340 l340 y340 z340 st340 hQ340
    subst l340 y340 z340
    rw [if_pos (by decide)] at hQ340
    obtain ⟨rfl, N340q, hh340⟩ := hQ340
    refine own_seq st340 ?_
    have N340 := Fr.app N321 N340q
    show OwnGo p e below (T340.setTop (mkF m 70 #[.val (.int p1), .val (.int (1 : Int32)), .val (.ref wT), .val (.ref a307), .val (.ref a312), .val (.ref ab321), .unset] [(.int (1 : Int32))])) _
    refine own_back (fun t k => XS.ifNo X340.here hx rfl (hb hby at_70) rfl (Jvm.Free.XT.i0_eq_f (by decide)) k) ?_
    show OwnGo p e below (T340.setTop (mkF m 73 #[.val (.int p1), .val (.int (1 : Int32)), .val (.ref wT), .val (.ref a307), .val (.ref a312), .val (.ref ab321), .unset] [])) _
    refine own_back (fun t k => XS.aload X340.here hx rfl (hb hby at_73) rfl rfl k) ?_
    show OwnGo p e below (T340.setTop (mkF m 75 #[.val (.int p1), .val (.int (1 : Int32)), .val (.ref wT), .val (.ref a307), .val (.ref a312), .val (.ref ab321), .unset] [(.ref a312)])) _
    refine own_back (fun t k => XS.aload X340.here hx rfl (hb hby at_75) rfl rfl k) ?_
    show OwnGo p e below (T340.setTop (mkF m 77 #[.val (.int p1), .val (.int (1 : Int32)), .val (.ref wT), .val (.ref a307), .val (.ref a312), .val (.ref ab321), .unset] [(.ref ab321), (.ref a312)])) _
    refine own_back (fun t k => XS.iconst X340.here hx rfl (hb hby at_77) k) ?_
    show OwnGo p e below (T340.setTop (mkF m 78 #[.val (.int p1), .val (.int (1 : Int32)), .val (.ref wT), .val (.ref a307), .val (.ref a312), .val (.ref ab321), .unset] [(.int (1 : Int32)), (.ref ab321), (.ref a312)])) _
    refine own_back (fun t k => XS.iloadN X340.here hx rfl (hb hby at_78) rfl k) ?_
    show OwnGo p e below (T340.setTop (mkF m 79 #[.val (.int p1), .val (.int (1 : Int32)), .val (.ref wT), .val (.ref a307), .val (.ref a312), .val (.ref ab321), .unset] [(.int (1 : Int32)), (.int (1 : Int32)), (.ref ab321), (.ref a312)])) _
    refine own_back (fun t k => XS.isub X340.here hx rfl (hb hby at_79) rfl k) ?_
    show OwnGo p e below (T340.setTop (mkF m 80 #[.val (.int p1), .val (.int (1 : Int32)), .val (.ref wT), .val (.ref a307), .val (.ref a312), .val (.ref ab321), .unset] [(.int (0 : Int32)), (.ref ab321), (.ref a312)])) _
    obtain ⟨c341, A341, q341, S341, M341, H341, U341⟩ := id V321
    have ib342 : ¬ ((0 : Int32) < 0 ∨ c341.slots.size ≤ ((0 : Int32)).toNatClampNeg) := (inb_of S341 ⟨by decide, by decide⟩)
    refine own_back (fun t k => X340.aaload hx (j := (0 : Int32)) (v := (.ref kP)) (own_hat hh340 A341.1) (State.isArrayOf_alike hZ312.alike A341.2.1) rfl A341.2.2 ib342 (H341.at ib342 rfl) (g := (mkF m 80 #[.val (.int p1), .val (.int (1 : Int32)), .val (.ref wT), .val (.ref a307), .val (.ref a312), .val (.ref ab321), .unset] [(.int (0 : Int32)), (.ref ab321), (.ref a312)])) rfl rfl (hb hby at_80) t k) ?_
    show OwnGo p e below (T340.setTop (mkF m 81 #[.val (.int p1), .val (.int (1 : Int32)), .val (.ref wT), .val (.ref a307), .val (.ref a312), .val (.ref ab321), .unset] [(.ref kP), (.ref a312)])) _
    obtain ⟨cq343, kq343, q343a, q343b, q343c⟩ := isOf hZ312 hh340 (OwnStr.exa (⟨_, _, f331, f332, f333, f334, by decide⟩ : OwnStr Z T321.heap a312 [112, 114, 105, 99, 101]))
    obtain ⟨_, _, ⟨T343, L343, k343, n343⟩, -, X343, ⟨Lc343, hQ343, l343, y343, z343⟩, st343⟩ := X340.virtualBack hx (y := (⟨"java/lang/String", "equals", "(Ljava/lang/Object;)Z"⟩ : MethodName)) (z := (⟨"java/lang/String", "equals", "(Ljava/lang/Object;)Z"⟩ : MethodName)) hown312 (mvT hZ312 (hw _ (List.mem_of_getElem? (i := 36) rfl))) (mvT hZ312 (hw _ (List.mem_of_getElem? (i := 37) rfl))) (notFace_of_selects (args := #[]) (mvT hZ312 (hw _ (List.mem_of_getElem? (i := 39) rfl)))) (mvT hZ312 (hw _ (List.mem_of_getElem? (i := 39) rfl))) (mvT hZ312 (hw _ (List.mem_of_getElem? (i := 38) rfl))) (by decide) (own_backN (W := 0) (rm_seq l Z a0 hw [] a312 kP [112, 114, 105, 99, 101] [112, 114, 105, 99, 101] cz T321.heap n0 Zs324 O322 (⟨_, _, f331, f332, f333, f334, by decide⟩ : OwnStr Z T321.heap a312 [112, 114, 105, 99, 101]) (BP.ext O322.2) SC hcz) hZ312 (hw _ (List.mem_of_getElem? (i := 40) rfl)) (hw _ (List.mem_of_getElem? (i := 4) rfl)) (by decide) (by decide)) q343a q343c (g := (mkF m 81 #[.val (.int p1), .val (.int (1 : Int32)), .val (.ref wT), .val (.ref a307), .val (.ref a312), .val (.ref ab321), .unset] [(.ref kP), (.ref a312)])) rfl (by rw [hml]; rfl) (Steps.refl _) (argsL := [(.ref kP)]) (rest := []) (lenOf lw_pd1 rfl) rfl (by show 2 * 0 + _ ≤ _; exact Nat.le_of_eq rfl) (hb hby at_81) (fun _ _ => ⟨rfl, hh340, Nat.le_of_ble_eq_true rfl, Nat.le_of_ble_eq_true rfl⟩)
    dsimp only [Pt.U, Pt.locs, Pt.cells, Pt.slots] at X343 l343 y343 z343 st343 hQ343
    subst l343 y343 z343
    rw [if_pos (by decide)] at hQ343
    obtain ⟨rfl, N343q, hh343⟩ := hQ343
    refine own_seq st343 ?_
    have N343 := Fr.app N340 N343q
    show OwnGo p e below (T343.setTop (mkF m 84 #[.val (.int p1), .val (.int (1 : Int32)), .val (.ref wT), .val (.ref a307), .val (.ref a312), .val (.ref ab321), .unset] [(.int (1 : Int32))])) _
    refine own_back (fun t k => XS.ifYes X343.here hx rfl (pc0 := 84) (pc' := 89) rfl (hb hby at_84) rfl (Jvm.Free.XT.i0_ne_t (by decide)) (by decide) (by decide) k) ?_
    show OwnGo p e below (T343.setTop (mkF m 89 #[.val (.int p1), .val (.int (1 : Int32)), .val (.ref wT), .val (.ref a307), .val (.ref a312), .val (.ref ab321), .unset] [])) _
    refine own_back (fun t k => XS.aload X343.here hx rfl (hb hby at_89) rfl rfl k) ?_
    show OwnGo p e below (T343.setTop (mkF m 91 #[.val (.int p1), .val (.int (1 : Int32)), .val (.ref wT), .val (.ref a307), .val (.ref a312), .val (.ref ab321), .unset] [(.ref ab321)])) _
    refine own_back (fun t k => XS.iloadN X343.here hx rfl (hb hby at_91) rfl k) ?_
    show OwnGo p e below (T343.setTop (mkF m 92 #[.val (.int p1), .val (.int (1 : Int32)), .val (.ref wT), .val (.ref a307), .val (.ref a312), .val (.ref ab321), .unset] [(.int (1 : Int32)), (.ref ab321)])) _
    obtain ⟨c344, A344, q344, S344, M344, H344, U344⟩ := id V321
    have ib345 : ¬ ((1 : Int32) < 0 ∨ c344.slots.size ≤ ((1 : Int32)).toNatClampNeg) := (inb_of S344 ⟨by decide, by decide⟩)
    refine own_back (fun t k => X343.aaload hx (j := (1 : Int32)) (v := (.ref kT)) (own_hat hh343 A344.1) (State.isArrayOf_alike hZ312.alike A344.2.1) rfl A344.2.2 ib345 (H344.at ib345 rfl) (g := (mkF m 92 #[.val (.int p1), .val (.int (1 : Int32)), .val (.ref wT), .val (.ref a307), .val (.ref a312), .val (.ref ab321), .unset] [(.int (1 : Int32)), (.ref ab321)])) rfl rfl (hb hby at_92) t k) ?_
    show OwnGo p e below (T343.setTop (mkF m 93 #[.val (.int p1), .val (.int (1 : Int32)), .val (.ref wT), .val (.ref a307), .val (.ref a312), .val (.ref ab321), .unset] [(.ref kT)])) _
    refine own_back (fun t k => XS.aloadN X343.here hx rfl (hb hby at_93) rfl rfl k) ?_
    show OwnGo p e below (T343.setTop (mkF m 94 #[.val (.int p1), .val (.int (1 : Int32)), .val (.ref wT), .val (.ref a307), .val (.ref a312), .val (.ref ab321), .unset] [(.ref wT), (.ref kT)])) _
    obtain ⟨cq346, kq346, q346a, q346b, q346c⟩ := isOf hZ312 hh343 (ET.ext O322.2)
    obtain ⟨_, _, ⟨T346, L346, k346, n346⟩, -, X346, ⟨Lc346, hQ346, l346, y346, z346⟩, st346⟩ := X343.virtualBack hx (y := (⟨"com/example/indexwright/indexwright/bond/BondVariant", "key", "()Ljava/lang/String;"⟩ : MethodName)) (z := (⟨"com/example/indexwright/indexwright/bond/BondVariant", "key", "()Ljava/lang/String;"⟩ : MethodName)) hown312 (mvT hZ312 (hw _ (List.mem_of_getElem? (i := 49) rfl))) (mvT hZ312 (hw _ (List.mem_of_getElem? (i := 50) rfl))) (notFace_of_selects (args := #[]) (mvT hZ312 (hw _ (List.mem_of_getElem? (i := 52) rfl)))) (mvT hZ312 (hw _ (List.mem_of_getElem? (i := 52) rfl))) (mvT hZ312 (hw _ (List.mem_of_getElem? (i := 51) rfl))) (by decide) (own_backN (W := 1) (rm_key l Z a0 hw [] wT kT T321.heap n0 Zs324 (FT.ext O322.2)) hZ312 (hw _ (List.mem_of_getElem? (i := 53) rfl)) (hw _ (List.mem_of_getElem? (i := 1) rfl)) (by decide) (by decide)) q346a q346c (g := (mkF m 94 #[.val (.int p1), .val (.int (1 : Int32)), .val (.ref wT), .val (.ref a307), .val (.ref a312), .val (.ref ab321), .unset] [(.ref wT), (.ref kT)])) rfl (by rw [hml]; rfl) (Steps.refl _) (argsL := []) (rest := [(.ref kT)]) (lenOf lw_pd2 rfl) rfl (by show 2 * 0 + _ ≤ _; exact Nat.le_of_eq rfl) (hb hby at_94) (fun _ _ => ⟨rfl, hh343, Nat.le_of_ble_eq_true rfl, Nat.le_of_ble_eq_true rfl⟩)
    dsimp only [Pt.U, Pt.locs, Pt.cells, Pt.slots] at X346 l346 y346 z346 st346 hQ346
    subst l346 y346 z346
    obtain ⟨rfl, N346q, hh346⟩ := hQ346
    refine own_seq st346 ?_
    have N346 := Fr.app N343 N346q
    show OwnGo p e below (T346.setTop (mkF m 97 #[.val (.int p1), .val (.int (1 : Int32)), .val (.ref wT), .val (.ref a307), .val (.ref a312), .val (.ref ab321), .unset] [(.ref kT), (.ref kT)])) _
    obtain ⟨cq347, kq347, q347a, q347b, q347c⟩ := isOf hZ312 hh346 (BT.ext O322.2).exa
    obtain ⟨_, _, ⟨T347, L347, k347, n347⟩, -, X347, ⟨Lc347, hQ347, l347, y347, z347⟩, st347⟩ := X346.virtualBack hx (y := (⟨"java/lang/String", "equals", "(Ljava/lang/Object;)Z"⟩ : MethodName)) (z := (⟨"java/lang/String", "equals", "(Ljava/lang/Object;)Z"⟩ : MethodName)) hown312 (mvT hZ312 (hw _ (List.mem_of_getElem? (i := 36) rfl))) (mvT hZ312 (hw _ (List.mem_of_getElem? (i := 37) rfl))) (notFace_of_selects (args := #[]) (mvT hZ312 (hw _ (List.mem_of_getElem? (i := 39) rfl)))) (mvT hZ312 (hw _ (List.mem_of_getElem? (i := 39) rfl))) (mvT hZ312 (hw _ (List.mem_of_getElem? (i := 38) rfl))) (by decide) (own_backN (W := 0) (rm_seq l Z a0 hw [] kT kT [116, 111, 116, 97, 108] [116, 111, 116, 97, 108] cz T321.heap n0 Zs324 O322 (BT.ext O322.2) (BT.ext O322.2) SC hcz) hZ312 (hw _ (List.mem_of_getElem? (i := 40) rfl)) (hw _ (List.mem_of_getElem? (i := 4) rfl)) (by decide) (by decide)) q347a q347c (g := (mkF m 97 #[.val (.int p1), .val (.int (1 : Int32)), .val (.ref wT), .val (.ref a307), .val (.ref a312), .val (.ref ab321), .unset] [(.ref kT), (.ref kT)])) rfl (by rw [hml]; rfl) (Steps.refl _) (argsL := [(.ref kT)]) (rest := []) (lenOf lw_pd1 rfl) rfl (by show 2 * 0 + _ ≤ _; exact Nat.le_of_eq rfl) (hb hby at_97) (fun _ _ => ⟨rfl, hh346, Nat.le_of_ble_eq_true rfl, Nat.le_of_ble_eq_true rfl⟩)
    dsimp only [Pt.U, Pt.locs, Pt.cells, Pt.slots] at X347 l347 y347 z347 st347 hQ347
    subst l347 y347 z347
    rw [if_pos (by decide)] at hQ347
    obtain ⟨rfl, N347q, hh347⟩ := hQ347
    refine own_seq st347 ?_
    have N347 := Fr.app N346 N347q
    show OwnGo p e below (T347.setTop (mkF m 100 #[.val (.int p1), .val (.int (1 : Int32)), .val (.ref wT), .val (.ref a307), .val (.ref a312), .val (.ref ab321), .unset] [(.int (1 : Int32))])) _
    refine own_back (fun t k => XS.ifYes X347.here hx rfl (pc0 := 100) (pc' := 105) rfl (hb hby at_100) rfl (Jvm.Free.XT.i0_ne_t (by decide)) (by decide) (by decide) k) ?_
    show OwnGo p e below (T347.setTop (mkF m 105 #[.val (.int p1), .val (.int (1 : Int32)), .val (.ref wT), .val (.ref a307), .val (.ref a312), .val (.ref ab321), .unset] [])) _
    refine own_back (fun t k => XS.aload X347.here hx rfl (hb hby at_105) rfl rfl k) ?_
    show OwnGo p e below (T347.setTop (mkF m 107 #[.val (.int p1), .val (.int (1 : Int32)), .val (.ref wT), .val (.ref a307), .val (.ref a312), .val (.ref ab321), .unset] [(.ref ab321)])) _
    refine own_back (fun t k => XS.iloadN X347.here hx rfl (hb hby at_107) rfl k) ?_
    show OwnGo p e below (T347.setTop (mkF m 108 #[.val (.int p1), .val (.int (1 : Int32)), .val (.ref wT), .val (.ref a307), .val (.ref a312), .val (.ref ab321), .unset] [(.int (1 : Int32)), (.ref ab321)])) _
    obtain ⟨c348, A348, q348, S348, M348, H348, U348⟩ := id V321
    have ib349 : ¬ ((1 : Int32) < 0 ∨ c348.slots.size ≤ ((1 : Int32)).toNatClampNeg) := (inb_of S348 ⟨by decide, by decide⟩)
    refine own_back (fun t k => X347.aaload hx (j := (1 : Int32)) (v := (.ref kT)) (own_hat hh347 A348.1) (State.isArrayOf_alike hZ312.alike A348.2.1) rfl A348.2.2 ib349 (H348.at ib349 rfl) (g := (mkF m 108 #[.val (.int p1), .val (.int (1 : Int32)), .val (.ref wT), .val (.ref a307), .val (.ref a312), .val (.ref ab321), .unset] [(.int (1 : Int32)), (.ref ab321)])) rfl rfl (hb hby at_108) t k) ?_
    show OwnGo p e below (T347.setTop (mkF m 109 #[.val (.int p1), .val (.int (1 : Int32)), .val (.ref wT), .val (.ref a307), .val (.ref a312), .val (.ref ab321), .unset] [(.ref kT)])) _
    obtain ⟨_, _, ⟨T350, L350, k350, n350⟩, -, X350, ⟨Lc350, hQ350, l350, y350, z350⟩, st350⟩ := Jvm.LawKit.callS X347 hx (y := (⟨"com/example/indexwright/indexwright/bond/BondVariant", "of", "(Ljava/lang/String;)Lcom/example/indexwright/indexwright/bond/BondVariant;"⟩ : MethodName)) hown312 (mvT hZ312 (hw _ (List.mem_of_getElem? (i := 54) rfl))) (mvT hZ312 (hw _ (List.mem_of_getElem? (i := 55) rfl))) (mvT hZ312 (hw _ (List.mem_of_getElem? (i := 1) rfl))) (mvT hZ312 (hw _ (List.mem_of_getElem? (i := 56) rfl))) (by decide) (own_backN (W := 0) (rm_of l Z a0 hw [] kT [116, 111, 116, 97, 108] wP wT wV kV kP kT cz T321.heap n0 Zs324 O322 (BT.ext O322.2) SV AV EV FV FP FT BP BT SC hcz) hZ312 (hw _ (List.mem_of_getElem? (i := 56) rfl)) (hw _ (List.mem_of_getElem? (i := 1) rfl)) (by decide) (by decide)) (g := (mkF m 109 #[.val (.int p1), .val (.int (1 : Int32)), .val (.ref wT), .val (.ref a307), .val (.ref a312), .val (.ref ab321), .unset] [(.ref kT)])) rfl (by rw [hml]; rfl) (argsL := [(.ref kT)]) (rest := []) (lenOf lw_pd3 rfl) rfl (by show 2 * 0 + _ ≤ _; exact Nat.le_of_eq rfl) (hb hby at_109) (fun _ _ => ⟨rfl, hh347, Nat.le_of_ble_eq_true rfl, Nat.le_of_ble_eq_true rfl⟩)
    dsimp only [Pt.U, Pt.locs, Pt.cells, Pt.slots] at X350 l350 y350 z350 st350 hQ350
    subst l350 y350 z350
    rw [if_neg (by decide), if_pos rfl] at hQ350
    obtain ⟨rfl, N350q, E350⟩ := hQ350
    refine own_back st350 ?_
    have N350 := Fr.app N347 N350q
    have O351 := O322.ext E350
    have KP352 := KP323.ext E350
    have Zs353 := Nat.le_trans Zs324 E350.1
    have CR354 := CR325.trans (CHr.ext E350 CR325.1)
    have hk355 := Nat.le_trans hk326 E350.1
    have f356 := f327.ext E350
    have f357 := f328.ext E350
    have f358 := f329.ext E350
    have f359 := f330.ext E350
    have f360 := f331.ext E350
    have f361 := f332.ext E350
    have f362 := f333.ext E350
    have f363 := f334.ext E350
    have f364 := V321.ext E350
    show OwnGo p e below (T350.setTop (mkF m 112 #[.val (.int p1), .val (.int (1 : Int32)), .val (.ref wT), .val (.ref a307), .val (.ref a312), .val (.ref ab321), .unset] [(.ref wT)])) _
    refine own_back (fun t k => XS.aloadN X350.here hx rfl (hb hby at_112) rfl rfl k) ?_
    show OwnGo p e below (T350.setTop (mkF m 113 #[.val (.int p1), .val (.int (1 : Int32)), .val (.ref wT), .val (.ref a307), .val (.ref a312), .val (.ref ab321), .unset] [(.ref wT), (.ref wT)])) _
    refine own_back (fun t k => Jvm.RoadKit.acmp (g := (mkF m 113 #[.val (.int p1), .val (.int (1 : Int32)), .val (.ref wT), .val (.ref a307), .val (.ref a312), .val (.ref ab321), .unset] [(.ref wT), (.ref wT)])) X350 hx rfl rfl rfl (pc0 := 113) (pc' := 118) (same := true) rfl (hb hby at_113) rfl (decide_eq_true rfl) (by decide) (by decide) k) ?_
    show OwnGo p e below (T350.setTop (mkF m 118 #[.val (.int p1), .val (.int (1 : Int32)), .val (.ref wT), .val (.ref a307), .val (.ref a312), .val (.ref ab321), .unset] [])) _
    refine own_back (fun t k => XS.aload X350.here hx rfl (hb hby at_118) rfl rfl k) ?_
    show OwnGo p e below (T350.setTop (mkF m 120 #[.val (.int p1), .val (.int (1 : Int32)), .val (.ref wT), .val (.ref a307), .val (.ref a312), .val (.ref ab321), .unset] [(.ref ab321)])) _
    refine own_back (fun t k => XS.iconst X350.here hx rfl (hb hby at_120) k) ?_
    show OwnGo p e below (T350.setTop (mkF m 121 #[.val (.int p1), .val (.int (1 : Int32)), .val (.ref wT), .val (.ref a307), .val (.ref a312), .val (.ref ab321), .unset] [(.int (0 : Int32)), (.ref ab321)])) _
    refine own_back (fun t k => XS.aconstNull X350.here hx rfl (hb hby at_121) k) ?_
    show OwnGo p e below (T350.setTop (mkF m 122 #[.val (.int p1), .val (.int (1 : Int32)), .val (.ref wT), .val (.ref a307), .val (.ref a312), .val (.ref ab321), .unset] [.null, (.int (0 : Int32)), (.ref ab321)])) _
    obtain ⟨c365, A365, q365, S365, M365, H365, U365⟩ := id f364
    obtain ⟨T366, h366, X366, e366, W366, st366⟩ := stR X350 hx hZ312 rfl A365 (j := (0 : Int32)) (inb_of S365 ⟨by decide, by decide⟩) rfl (Or.inl rfl) (g := (mkF m 122 #[.val (.int p1), .val (.int (1 : Int32)), .val (.ref wT), .val (.ref a307), .val (.ref a312), .val (.ref ab321), .unset] [.null, (.int (0 : Int32)), (.ref ab321)])) rfl rfl (hb hby at_122)
    have O367 := O351.wr W366 ge335
    have KP368 := KP352.wr W366 (Or.inr sz336)
    have Zs369 := Nat.le_trans Zs353 (Keep.of_wr W366).1
    have CR370 := CR354.trans (CHr.wr W366 (Safe.arv hZ312.alike f364 (by decide)) CR354.1)
    have hk371 := Nat.le_trans hk355 (Keep.of_wr W366).1
    have f372 := f356.wr W366
    have f373 := f357.other W366 (Or.inl (Exa.neArv f356 f364 (hw _ (List.mem_of_getElem? (i := 5) rfl))))
    have f374 := f358.other W366 (Or.inl (Exa.neArv f356 f364 (hw _ (List.mem_of_getElem? (i := 5) rfl))))
    have f375 := f359.other W366 (own_arv_ne f359 f364 (by decide))
    have f376 := f360.wr W366
    have f377 := f361.other W366 (Or.inl (Exa.neArv f360 f364 (hw _ (List.mem_of_getElem? (i := 5) rfl))))
    have f378 := f362.other W366 (Or.inl (Exa.neArv f360 f364 (hw _ (List.mem_of_getElem? (i := 5) rfl))))
    have f379 := f363.other W366 (own_arv_ne f363 f364 (by decide))
    have V380 : Arv Z h366 ab321 kk321 (.object "java/lang/String") (2 : Int32) [.null, (.ref kT)] .null := Arv.set A365 q365 S365 M365 H365 U365 rfl W366 0 rfl (Nat.le_of_ble_eq_true rfl)
    have N381 := Fr.snoc X366 N350 ge335
    refine own_back st366 ?_
    show OwnGo p e below (T366.setTop (mkF m 123 #[.val (.int p1), .val (.int (1 : Int32)), .val (.ref wT), .val (.ref a307), .val (.ref a312), .val (.ref ab321), .unset] [])) _
    refine own_back (fun t k => XS.aload X366.here hx rfl (hb hby at_123) rfl rfl k) ?_
    show OwnGo p e below (T366.setTop (mkF m 125 #[.val (.int p1), .val (.int (1 : Int32)), .val (.ref wT), .val (.ref a307), .val (.ref a312), .val (.ref ab321), .unset] [(.ref ab321)])) _
    refine own_back (fun t k => XS.iconst X366.here hx rfl (hb hby at_125) k) ?_
    show OwnGo p e below (T366.setTop (mkF m 126 #[.val (.int p1), .val (.int (1 : Int32)), .val (.ref wT), .val (.ref a307), .val (.ref a312), .val (.ref ab321), .unset] [(.int (1 : Int32)), (.ref ab321)])) _
    refine own_back (fun t k => XS.aconstNull X366.here hx rfl (hb hby at_126) k) ?_
    show OwnGo p e below (T366.setTop (mkF m 127 #[.val (.int p1), .val (.int (1 : Int32)), .val (.ref wT), .val (.ref a307), .val (.ref a312), .val (.ref ab321), .unset] [.null, (.int (1 : Int32)), (.ref ab321)])) _
    obtain ⟨c382, A382, q382, S382, M382, H382, U382⟩ := id V380
    obtain ⟨T383, h383, X383, e383, W383, st383⟩ := stR X366 hx hZ312 e366 A382 (j := (1 : Int32)) (inb_of S382 ⟨by decide, by decide⟩) rfl (Or.inl rfl) (g := (mkF m 127 #[.val (.int p1), .val (.int (1 : Int32)), .val (.ref wT), .val (.ref a307), .val (.ref a312), .val (.ref ab321), .unset] [.null, (.int (1 : Int32)), (.ref ab321)])) rfl rfl (hb hby at_127)
    have O384 := O367.wr W383 ge335
    have KP385 := KP368.wr W383 (Or.inr sz336)
    have Zs386 := Nat.le_trans Zs369 (Keep.of_wr W383).1
    have CR387 := CR370.trans (CHr.wr W383 (Safe.arv hZ312.alike V380 (by decide)) CR370.1)
    have hk388 := Nat.le_trans hk371 (Keep.of_wr W383).1
    have f389 := f372.wr W383
    have f390 := f373.other W383 (Or.inl (Exa.neArv f372 V380 (hw _ (List.mem_of_getElem? (i := 5) rfl))))
    have f391 := f374.other W383 (Or.inl (Exa.neArv f372 V380 (hw _ (List.mem_of_getElem? (i := 5) rfl))))
    have f392 := f375.other W383 (own_arv_ne f375 V380 (by decide))
    have f393 := f376.wr W383
    have f394 := f377.other W383 (Or.inl (Exa.neArv f376 V380 (hw _ (List.mem_of_getElem? (i := 5) rfl))))
    have f395 := f378.other W383 (Or.inl (Exa.neArv f376 V380 (hw _ (List.mem_of_getElem? (i := 5) rfl))))
    have f396 := f379.other W383 (own_arv_ne f379 V380 (by decide))
    have V397 : Arv Z h383 ab321 kk321 (.object "java/lang/String") (2 : Int32) [.null, .null] .null := Arv.set A382 q382 S382 M382 H382 U382 rfl W383 1 rfl (Nat.le_of_ble_eq_true rfl)
    have N398 := Fr.snoc X383 N381 ge335
    refine own_back st383 ?_
    show OwnGo p e below (T383.setTop (mkF m 128 #[.val (.int p1), .val (.int (1 : Int32)), .val (.ref wT), .val (.ref a307), .val (.ref a312), .val (.ref ab321), .unset] [])) _
    obtain ⟨_, _, ⟨T399, L399, k399, n399⟩, -, X399, ⟨Lc399, hQ399, l399, y399, z399⟩, st399⟩ := Jvm.LawKit.callS X383 hx (y := (⟨"com/example/indexwright/indexwright/bond/BondVariant", "keys", "()[Ljava/lang/String;"⟩ : MethodName)) hown312 (mvT hZ312 (hw _ (List.mem_of_getElem? (i := 12) rfl))) (mvT hZ312 (hw _ (List.mem_of_getElem? (i := 13) rfl))) (mvT hZ312 (hw _ (List.mem_of_getElem? (i := 1) rfl))) (mvT hZ312 (hw _ (List.mem_of_getElem? (i := 14) rfl))) (by decide) (own_backN (W := 0) (rm_keys l Z a0 hw [] wP wT wV kV kP kT cz h383 n0 Zs386 O384 SV AV EV FV FP FT BP BT SC hcz) hZ312 (hw _ (List.mem_of_getElem? (i := 14) rfl)) (hw _ (List.mem_of_getElem? (i := 1) rfl)) (by decide) (by decide)) (g := (mkF m 128 #[.val (.int p1), .val (.int (1 : Int32)), .val (.ref wT), .val (.ref a307), .val (.ref a312), .val (.ref ab321), .unset] [])) rfl (by rw [hml]; rfl) (argsL := []) (rest := []) (lenOf lw_pd0 rfl) rfl (by show 2 * 0 + _ ≤ _; exact Nat.le_of_eq rfl) (hb hby at_128) (fun _ _ => ⟨rfl, e383, Nat.le_of_ble_eq_true rfl, Nat.le_of_ble_eq_true rfl⟩)
    dsimp only [Pt.U, Pt.locs, Pt.cells, Pt.slots] at X399 l399 y399 z399 st399 hQ399
    subst l399 y399 z399
    obtain ⟨ab399, kk399, rfl, N399q, E399, V399, s399⟩ := hQ399
    refine own_back st399 ?_
    have N399 := Fr.app N398 N399q
    have O400 := O384.ext E399
    have KP401 := KP385.ext E399
    have Zs402 := Nat.le_trans Zs386 E399.1
    have CR403 := CR387.trans (CHr.ext E399 CR387.1)
    have hk404 := Nat.le_trans hk388 E399.1
    have f405 := f389.ext E399
    have f406 := f390.ext E399
    have f407 := f391.ext E399
    have f408 := f392.ext E399
    have f409 := f393.ext E399
    have f410 := f394.ext E399
    have f411 := f395.ext E399
    have f412 := f396.ext E399
    have f413 := V397.ext E399
    have ge414 := Nat.le_trans Zs386 s399
    have sz415 := Nat.le_trans KP385.1 s399
    show OwnGo p e below (T399.setTop (mkF m 131 #[.val (.int p1), .val (.int (1 : Int32)), .val (.ref wT), .val (.ref a307), .val (.ref a312), .val (.ref ab321), .unset] [(.ref ab399)])) _
    refine own_back (fun t k => XS.astore X399.here hx rfl (hb hby at_131) rfl rfl (l' := #[.val (.int p1), .val (.int (1 : Int32)), .val (.ref wT), .val (.ref a307), .val (.ref a312), .val (.ref ab321), .val (.ref ab399)]) rfl k) ?_
    show OwnGo p e below (T399.setTop (mkF m 133 #[.val (.int p1), .val (.int (1 : Int32)), .val (.ref wT), .val (.ref a307), .val (.ref a312), .val (.ref ab321), .val (.ref ab399)] [])) _
    refine own_back (fun t k => XS.aload X399.here hx rfl (hb hby at_133) rfl rfl k) ?_
    show OwnGo p e below (T399.setTop (mkF m 135 #[.val (.int p1), .val (.int (1 : Int32)), .val (.ref wT), .val (.ref a307), .val (.ref a312), .val (.ref ab321), .val (.ref ab399)] [(.ref ab399)])) _
    refine own_back (fun t k => XS.ifnullNo X399.here hx rfl (hb hby at_135) rfl k) ?_
    show OwnGo p e below (T399.setTop (mkF m 138 #[.val (.int p1), .val (.int (1 : Int32)), .val (.ref wT), .val (.ref a307), .val (.ref a312), .val (.ref ab321), .val (.ref ab399)] [])) _
    refine own_back (fun t k => XS.aload X399.here hx rfl (hb hby at_138) rfl rfl k) ?_
    show OwnGo p e below (T399.setTop (mkF m 140 #[.val (.int p1), .val (.int (1 : Int32)), .val (.ref wT), .val (.ref a307), .val (.ref a312), .val (.ref ab321), .val (.ref ab399)] [(.ref ab399)])) _
    obtain ⟨c416, A416, q416, S416, M416, H416, U416⟩ := id V399
    refine own_back (fun t k => X399.arraylength hx (own_hat rfl A416.1) (State.isArrayOf_alike hZ312.alike A416.2.1) (g := (mkF m 140 #[.val (.int p1), .val (.int (1 : Int32)), .val (.ref wT), .val (.ref a307), .val (.ref a312), .val (.ref ab321), .val (.ref ab399)] [(.ref ab399)])) rfl rfl (hb hby at_140) t k) ?_
    rw [len_of S416 M416]
    show OwnGo p e below (T399.setTop (mkF m 141 #[.val (.int p1), .val (.int (1 : Int32)), .val (.ref wT), .val (.ref a307), .val (.ref a312), .val (.ref ab321), .val (.ref ab399)] [(.int (2 : Int32))])) _
    refine own_back (fun t k => XS.iconst X399.here hx rfl (hb hby at_141) k) ?_
    show OwnGo p e below (T399.setTop (mkF m 142 #[.val (.int p1), .val (.int (1 : Int32)), .val (.ref wT), .val (.ref a307), .val (.ref a312), .val (.ref ab321), .val (.ref ab399)] [(.int (2 : Int32)), (.int (2 : Int32))])) _
    refine own_back (fun t k => XS.icmpNo X399.here hx rfl (hb hby at_142) rfl (Jvm.Free.XT.ii_ne_f (by decide)) k) ?_
    show OwnGo p e below (T399.setTop (mkF m 145 #[.val (.int p1), .val (.int (1 : Int32)), .val (.ref wT), .val (.ref a307), .val (.ref a312), .val (.ref ab321), .val (.ref ab399)] [])) _
    refine own_back (fun t k => XS.aloadN X399.here hx rfl (hb hby at_145) rfl rfl k) ?_
    show OwnGo p e below (T399.setTop (mkF m 146 #[.val (.int p1), .val (.int (1 : Int32)), .val (.ref wT), .val (.ref a307), .val (.ref a312), .val (.ref ab321), .val (.ref ab399)] [(.ref a307)])) _
    refine own_back (fun t k => XS.aload X399.here hx rfl (hb hby at_146) rfl rfl k) ?_
    show OwnGo p e below (T399.setTop (mkF m 148 #[.val (.int p1), .val (.int (1 : Int32)), .val (.ref wT), .val (.ref a307), .val (.ref a312), .val (.ref ab321), .val (.ref ab399)] [(.ref ab399), (.ref a307)])) _
    refine own_back (fun t k => XS.iloadN X399.here hx rfl (hb hby at_148) rfl k) ?_
    show OwnGo p e below (T399.setTop (mkF m 149 #[.val (.int p1), .val (.int (1 : Int32)), .val (.ref wT), .val (.ref a307), .val (.ref a312), .val (.ref ab321), .val (.ref ab399)] [(.int (1 : Int32)), (.ref ab399), (.ref a307)])) _
    obtain ⟨c417, A417, q417, S417, M417, H417, U417⟩ := id V399
    have ib418 : ¬ ((1 : Int32) < 0 ∨ c417.slots.size ≤ ((1 : Int32)).toNatClampNeg) := (inb_of S417 ⟨by decide, by decide⟩)
    refine own_back (fun t k => X399.aaload hx (j := (1 : Int32)) (v := (.ref kT)) (own_hat rfl A417.1) (State.isArrayOf_alike hZ312.alike A417.2.1) rfl A417.2.2 ib418 (H417.at ib418 rfl) (g := (mkF m 149 #[.val (.int p1), .val (.int (1 : Int32)), .val (.ref wT), .val (.ref a307), .val (.ref a312), .val (.ref ab321), .val (.ref ab399)] [(.int (1 : Int32)), (.ref ab399), (.ref a307)])) rfl rfl (hb hby at_149) t k) ?_
    show OwnGo p e below (T399.setTop (mkF m 150 #[.val (.int p1), .val (.int (1 : Int32)), .val (.ref wT), .val (.ref a307), .val (.ref a312), .val (.ref ab321), .val (.ref ab399)] [(.ref kT), (.ref a307)])) _
    obtain ⟨cq419, kq419, q419a, q419b, q419c⟩ := isOf hZ312 rfl (OwnStr.exa (⟨_, _, f405, f406, f407, f408, by decide⟩ : OwnStr Z T399.heap a307 [116, 111, 116, 97, 108]))
    obtain ⟨_, _, ⟨T419, L419, k419, n419⟩, -, X419, ⟨Lc419, hQ419, l419, y419, z419⟩, st419⟩ := X399.virtualBack hx (y := (⟨"java/lang/String", "equals", "(Ljava/lang/Object;)Z"⟩ : MethodName)) (z := (⟨"java/lang/String", "equals", "(Ljava/lang/Object;)Z"⟩ : MethodName)) hown312 (mvT hZ312 (hw _ (List.mem_of_getElem? (i := 36) rfl))) (mvT hZ312 (hw _ (List.mem_of_getElem? (i := 37) rfl))) (notFace_of_selects (args := #[]) (mvT hZ312 (hw _ (List.mem_of_getElem? (i := 39) rfl)))) (mvT hZ312 (hw _ (List.mem_of_getElem? (i := 39) rfl))) (mvT hZ312 (hw _ (List.mem_of_getElem? (i := 38) rfl))) (by decide) (own_backN (W := 0) (rm_seq l Z a0 hw [] a307 kT [116, 111, 116, 97, 108] [116, 111, 116, 97, 108] cz T399.heap n0 Zs402 O400 (⟨_, _, f405, f406, f407, f408, by decide⟩ : OwnStr Z T399.heap a307 [116, 111, 116, 97, 108]) (BT.ext O400.2) SC hcz) hZ312 (hw _ (List.mem_of_getElem? (i := 40) rfl)) (hw _ (List.mem_of_getElem? (i := 4) rfl)) (by decide) (by decide)) q419a q419c (g := (mkF m 150 #[.val (.int p1), .val (.int (1 : Int32)), .val (.ref wT), .val (.ref a307), .val (.ref a312), .val (.ref ab321), .val (.ref ab399)] [(.ref kT), (.ref a307)])) rfl (by rw [hml]; rfl) (Steps.refl _) (argsL := [(.ref kT)]) (rest := []) (lenOf lw_pd1 rfl) rfl (by show 2 * 0 + _ ≤ _; exact Nat.le_of_eq rfl) (hb hby at_150) (fun _ _ => ⟨rfl, rfl, Nat.le_of_ble_eq_true rfl, Nat.le_of_ble_eq_true rfl⟩)
    dsimp only [Pt.U, Pt.locs, Pt.cells, Pt.slots] at X419 l419 y419 z419 st419 hQ419
    subst l419 y419 z419
    rw [if_pos (by decide)] at hQ419
    obtain ⟨rfl, N419q, hh419⟩ := hQ419
    refine own_seq st419 ?_
    have N419 := Fr.app N399 N419q
    show OwnGo p e below (T419.setTop (mkF m 153 #[.val (.int p1), .val (.int (1 : Int32)), .val (.ref wT), .val (.ref a307), .val (.ref a312), .val (.ref ab321), .val (.ref ab399)] [(.int (1 : Int32))])) _
    refine own_back (fun t k => XS.ifNo X419.here hx rfl (hb hby at_153) rfl (Jvm.Free.XT.i0_eq_f (by decide)) k) ?_
    show OwnGo p e below (T419.setTop (mkF m 156 #[.val (.int p1), .val (.int (1 : Int32)), .val (.ref wT), .val (.ref a307), .val (.ref a312), .val (.ref ab321), .val (.ref ab399)] [])) _
    refine own_back (fun t k => XS.aload X419.here hx rfl (hb hby at_156) rfl rfl k) ?_
    show OwnGo p e below (T419.setTop (mkF m 158 #[.val (.int p1), .val (.int (1 : Int32)), .val (.ref wT), .val (.ref a307), .val (.ref a312), .val (.ref ab321), .val (.ref ab399)] [(.ref a312)])) _
    refine own_back (fun t k => XS.aload X419.here hx rfl (hb hby at_158) rfl rfl k) ?_
    show OwnGo p e below (T419.setTop (mkF m 160 #[.val (.int p1), .val (.int (1 : Int32)), .val (.ref wT), .val (.ref a307), .val (.ref a312), .val (.ref ab321), .val (.ref ab399)] [(.ref ab399), (.ref a312)])) _
    refine own_back (fun t k => XS.iconst X419.here hx rfl (hb hby at_160) k) ?_
    show OwnGo p e below (T419.setTop (mkF m 161 #[.val (.int p1), .val (.int (1 : Int32)), .val (.ref wT), .val (.ref a307), .val (.ref a312), .val (.ref ab321), .val (.ref ab399)] [(.int (1 : Int32)), (.ref ab399), (.ref a312)])) _
    refine own_back (fun t k => XS.iloadN X419.here hx rfl (hb hby at_161) rfl k) ?_
    show OwnGo p e below (T419.setTop (mkF m 162 #[.val (.int p1), .val (.int (1 : Int32)), .val (.ref wT), .val (.ref a307), .val (.ref a312), .val (.ref ab321), .val (.ref ab399)] [(.int (1 : Int32)), (.int (1 : Int32)), (.ref ab399), (.ref a312)])) _
    refine own_back (fun t k => XS.isub X419.here hx rfl (hb hby at_162) rfl k) ?_
    show OwnGo p e below (T419.setTop (mkF m 163 #[.val (.int p1), .val (.int (1 : Int32)), .val (.ref wT), .val (.ref a307), .val (.ref a312), .val (.ref ab321), .val (.ref ab399)] [(.int (0 : Int32)), (.ref ab399), (.ref a312)])) _
    obtain ⟨c420, A420, q420, S420, M420, H420, U420⟩ := id V399
    have ib421 : ¬ ((0 : Int32) < 0 ∨ c420.slots.size ≤ ((0 : Int32)).toNatClampNeg) := (inb_of S420 ⟨by decide, by decide⟩)
    refine own_back (fun t k => X419.aaload hx (j := (0 : Int32)) (v := (.ref kP)) (own_hat hh419 A420.1) (State.isArrayOf_alike hZ312.alike A420.2.1) rfl A420.2.2 ib421 (H420.at ib421 rfl) (g := (mkF m 163 #[.val (.int p1), .val (.int (1 : Int32)), .val (.ref wT), .val (.ref a307), .val (.ref a312), .val (.ref ab321), .val (.ref ab399)] [(.int (0 : Int32)), (.ref ab399), (.ref a312)])) rfl rfl (hb hby at_163) t k) ?_
    show OwnGo p e below (T419.setTop (mkF m 164 #[.val (.int p1), .val (.int (1 : Int32)), .val (.ref wT), .val (.ref a307), .val (.ref a312), .val (.ref ab321), .val (.ref ab399)] [(.ref kP), (.ref a312)])) _
    obtain ⟨cq422, kq422, q422a, q422b, q422c⟩ := isOf hZ312 hh419 (OwnStr.exa (⟨_, _, f409, f410, f411, f412, by decide⟩ : OwnStr Z T399.heap a312 [112, 114, 105, 99, 101]))
    obtain ⟨_, _, ⟨T422, L422, k422, n422⟩, -, X422, ⟨Lc422, hQ422, l422, y422, z422⟩, st422⟩ := X419.virtualBack hx (y := (⟨"java/lang/String", "equals", "(Ljava/lang/Object;)Z"⟩ : MethodName)) (z := (⟨"java/lang/String", "equals", "(Ljava/lang/Object;)Z"⟩ : MethodName)) hown312 (mvT hZ312 (hw _ (List.mem_of_getElem? (i := 36) rfl))) (mvT hZ312 (hw _ (List.mem_of_getElem? (i := 37) rfl))) (notFace_of_selects (args := #[]) (mvT hZ312 (hw _ (List.mem_of_getElem? (i := 39) rfl)))) (mvT hZ312 (hw _ (List.mem_of_getElem? (i := 39) rfl))) (mvT hZ312 (hw _ (List.mem_of_getElem? (i := 38) rfl))) (by decide) (own_backN (W := 0) (rm_seq l Z a0 hw [] a312 kP [112, 114, 105, 99, 101] [112, 114, 105, 99, 101] cz T399.heap n0 Zs402 O400 (⟨_, _, f409, f410, f411, f412, by decide⟩ : OwnStr Z T399.heap a312 [112, 114, 105, 99, 101]) (BP.ext O400.2) SC hcz) hZ312 (hw _ (List.mem_of_getElem? (i := 40) rfl)) (hw _ (List.mem_of_getElem? (i := 4) rfl)) (by decide) (by decide)) q422a q422c (g := (mkF m 164 #[.val (.int p1), .val (.int (1 : Int32)), .val (.ref wT), .val (.ref a307), .val (.ref a312), .val (.ref ab321), .val (.ref ab399)] [(.ref kP), (.ref a312)])) rfl (by rw [hml]; rfl) (Steps.refl _) (argsL := [(.ref kP)]) (rest := []) (lenOf lw_pd1 rfl) rfl (by show 2 * 0 + _ ≤ _; exact Nat.le_of_eq rfl) (hb hby at_164) (fun _ _ => ⟨rfl, hh419, Nat.le_of_ble_eq_true rfl, Nat.le_of_ble_eq_true rfl⟩)
    dsimp only [Pt.U, Pt.locs, Pt.cells, Pt.slots] at X422 l422 y422 z422 st422 hQ422
    subst l422 y422 z422
    rw [if_pos (by decide)] at hQ422
    obtain ⟨rfl, N422q, hh422⟩ := hQ422
    refine own_seq st422 ?_
    have N422 := Fr.app N419 N422q
    show OwnGo p e below (T422.setTop (mkF m 167 #[.val (.int p1), .val (.int (1 : Int32)), .val (.ref wT), .val (.ref a307), .val (.ref a312), .val (.ref ab321), .val (.ref ab399)] [(.int (1 : Int32))])) _
    refine own_back (fun t k => XS.ifNo X422.here hx rfl (hb hby at_167) rfl (Jvm.Free.XT.i0_eq_f (by decide)) k) ?_
    show OwnGo p e below (T422.setTop (mkF m 170 #[.val (.int p1), .val (.int (1 : Int32)), .val (.ref wT), .val (.ref a307), .val (.ref a312), .val (.ref ab321), .val (.ref ab399)] [])) _
    refine own_back (fun t k => XS.iconst X422.here hx rfl (hb hby at_170) k) ?_
    show OwnGo p e below (T422.setTop (mkF m 171 #[.val (.int p1), .val (.int (1 : Int32)), .val (.ref wT), .val (.ref a307), .val (.ref a312), .val (.ref ab321), .val (.ref ab399)] [(.int (1 : Int32))])) _
    refine own_back (fun t k => XS.goto X422.here hx rfl (pc0 := 171) (pc' := 175) rfl (hb hby at_171) (by decide) (by decide) k) ?_
    show OwnGo p e below (T422.setTop (mkF m 175 #[.val (.int p1), .val (.int (1 : Int32)), .val (.ref wT), .val (.ref a307), .val (.ref a312), .val (.ref ab321), .val (.ref ab399)] [(.int (1 : Int32))])) _
    refine own_retNW X422 hx Bd.notSynchronized (t := .boolean) (z := (1 : Int32)) Bd.returns (by simp) rfl hS312 hk404 hZ312 hEL (hh ▸ CR403) (hb hby at_175) hh422 (Nat.le_of_ble_eq_true rfl) (Nat.le_of_ble_eq_true rfl) ?_
    exact ⟨rfl, N422⟩
set_option maxRecDepth 65536 in
set_option maxHeartbeats 40000000 in
theorem comes_1 {Post : Tables → Env → Array Value → State → Outcome → State → Prop} (hpost : ∀ tb e args s v u, (limb_1_1.after args s (.returned v) u = true ∧ limb_1_2.after args s (.returned v) u = true ∧ True) → ReturnedEndW s (.returned v) u (Jvm.fieldLocs frame_1_writes args s ++ Jvm.arrayLocs frame_1_arrays args s ++ Jvm.staticLocs frame_1_statics s) 24 2176 → Post tb e args s (.returned v) u) :
    ArmFor flags0 classFile x code maxLocals ret World_1 tables_1 room_1 Calls_1 rest_1 Pre_1 Post := by
  intro l hfl _ _ p e ha hc hk s m args below hf hA hF happ hP
  obtain ⟨hcalls, hrest, hpre⟩ := hP
  obtain ⟨-, -, -, hnamed, -, -, -, hat⟩ := (Spec.applies_iff hf).mp happ
  obtain ⟨hg, hn⟩ := and_e (Cond.before_iff.mp (show (Jvm.Cond.and given_1 narrow_1).before args s = true from hpre))
  obtain ⟨g1, g2⟩ := and_e hg
  obtain ⟨g3, g4⟩ := and_e hn
  obtain ⟨g5, g6⟩ := and_e g4
  obtain ⟨g7, g8⟩ := and_e g6
  obtain ⟨g9, g10⟩ := and_e g8
  obtain ⟨g11, g12⟩ := and_e g10
  obtain ⟨g13, g14⟩ := and_e g12
  obtain ⟨g15, g16⟩ := and_e g14
  obtain ⟨g17, g18⟩ := and_e g16
  obtain ⟨g19, g20⟩ := and_e g18
  obtain ⟨g21, g22⟩ := and_e g20
  obtain ⟨g23, g24⟩ := and_e g22
  obtain ⟨g25, g26⟩ := and_e g24
  obtain ⟨g27, g28⟩ := and_e g26
  obtain ⟨g29, g30⟩ := and_e g28
  obtain ⟨g31, g32⟩ := and_e g30
  obtain ⟨g33, g34⟩ := and_e g32
  obtain ⟨g35, g36⟩ := and_e g34
  obtain ⟨g37, g38⟩ := and_e g36
  obtain ⟨g39, g40⟩ := and_e g38
  obtain ⟨g41, g42⟩ := and_e g40
  obtain ⟨g43, g44⟩ := and_e g42
  obtain ⟨g45, g46⟩ := and_e g44
  obtain ⟨g47, g48⟩ := and_e g46
  obtain ⟨g49, g50⟩ := and_e g48
  obtain ⟨g51, g52⟩ := and_e g50
  obtain ⟨w0, rfl⟩ : ∃ w0 : Value, args = #[w0] := by
    have hs : args.size = 1 := by simpa [Cond.value, given_1] using g1
    obtain ⟨L⟩ := args
    match L, hs with
    | [w0], _ => exact ⟨w0, rfl⟩
  have hw := fun d (hd : d ∈ tables_1) => atoms_spec (ws := Jvm.Cond.code x code maxLocals ret :: tables_1) hat d (List.mem_cons_of_mem _ hd)
  have hfit : Fit s := fun {y c} hc i hi => by
    obtain ⟨ha, rfl⟩ := Array.getElem?_eq_some_iff.mp hc
    have q := List.all_eq_true.mp ((Array.all_eq_true_iff_forall_mem.mp hF) _ (Array.getElem_mem ha)) i (List.mem_range.mpr hi)
    simpa [Array.getElem?_eq_getElem hi] using q
  obtain ⟨hsets, hown0⟩ := atoms_of _ (rest_1_c_eq ▸ (show rest_1_c.before _ s = true from hrest))
  have hr0 := Cond.before_iff.mp hown0
  obtain ⟨i0, ei0⟩ := is_v g2
  obtain rfl : w0 = (.int i0) := Option.some.inj ei0
  obtain ⟨wP, vP⟩ := exa_v g3
  have SP : Sta s s.heap "com/example/indexwright/indexwright/bond/BondVariant" "PRICE" "Lcom/example/indexwright/indexwright/bond/BondVariant;" (.ref wP) := Sta.start vP (Or.inr ⟨(hw _ (List.mem_of_getElem? (i := 1) rfl)), (hw _ (List.mem_of_getElem? (i := 2) rfl))⟩)
  have EEP : Exa s s.heap wP "com/example/indexwright/indexwright/bond/BondVariant" := Exa.start vP g3
  obtain ⟨wT, vT⟩ := exa_v g13
  have ST : Sta s s.heap "com/example/indexwright/indexwright/bond/BondVariant" "TOTAL" "Lcom/example/indexwright/indexwright/bond/BondVariant;" (.ref wT) := Sta.start vT (Or.inr ⟨(hw _ (List.mem_of_getElem? (i := 1) rfl)), (hw _ (List.mem_of_getElem? (i := 27) rfl))⟩)
  have EET : Exa s s.heap wT "com/example/indexwright/indexwright/bond/BondVariant" := Exa.start vT g13
  obtain ⟨wV, vV⟩ := arr_v g5
  have SV : Sta s s.heap "com/example/indexwright/indexwright/bond/BondVariant" "$VALUES" "[Lcom/example/indexwright/indexwright/bond/BondVariant;" (.ref wV) := Sta.start vV (Or.inl (hw _ (List.mem_of_getElem? (i := 28) rfl)))
  obtain ⟨cV, AV0⟩ := Arr.start vV g5
  have nV := own_len AV0 vV g9
  have AV : Arv s s.heap wV cV.cls (.object "com/example/indexwright/indexwright/bond/BondVariant") 2 [.ref wP, .ref wT] .null := Arv.start hfit AV0 (by rw [nV]; decide) (by rw [nV]; rfl) (by decide) rfl ⟨own_elemR AV0 vV vP g11 (by decide), own_elemR AV0 vV vT g15 (by decide), trivial⟩
  have EV : Exa s s.heap wV "[Lcom/example/indexwright/indexwright/bond/BondVariant;" := Exa.start vV g7
  have FV : ∀ c, s.heap[wV]? = some c → FitC s c := fun c hc => by
    cases AV0.1.symm.trans hc
    exact FitC.start hfit AV0
  obtain ⟨kP, ekP⟩ := exa_v g17
  have FP : Fld s s.heap wP "com/example/indexwright/indexwright/bond/BondVariant" "key" "Ljava/lang/String;" (.ref kP) := Fld.start ((fld_at vP).symm.trans ekP)
  have BP : OwnStr s s.heap kP [112, 114, 105, 99, 101] := by
    obtain ⟨tv, ev⟩ := arr_v g23
    obtain ⟨cv, Av⟩ := Arr.start ev g23
    have nn := own_len Av ev g25
    exact ⟨tv, cv.cls, Exa.start ekP g17, Fld.start ((fld_at ekP).symm.trans (own_eqint g21)), Fld.start ((fld_at ekP).symm.trans ev), Arv.start hfit Av (by rw [nn]; decide) (by rw [nn]; rfl) (by decide) rfl ⟨own_elem Av ev g35 (by decide), own_elem Av ev g37 (by decide), own_elem Av ev g39 (by decide), own_elem Av ev g41 (by decide), own_elem Av ev g43 (by decide), trivial⟩, by decide⟩
  obtain ⟨kT, ekT⟩ := exa_v g19
  have FT : Fld s s.heap wT "com/example/indexwright/indexwright/bond/BondVariant" "key" "Ljava/lang/String;" (.ref kT) := Fld.start ((fld_at vT).symm.trans ekT)
  have BT : OwnStr s s.heap kT [116, 111, 116, 97, 108] := by
    obtain ⟨tv, ev⟩ := arr_v g29
    obtain ⟨cv, Av⟩ := Arr.start ev g29
    have nn := own_len Av ev g31
    exact ⟨tv, cv.cls, Exa.start ekT g19, Fld.start ((fld_at ekT).symm.trans (own_eqint g27)), Fld.start ((fld_at ekT).symm.trans ev), Arv.start hfit Av (by rw [nn]; decide) (by rw [nn]; rfl) (by decide) rfl ⟨own_elem Av ev g45 (by decide), own_elem Av ev g47 (by decide), own_elem Av ev g49 (by decide), own_elem Av ev g51 (by decide), own_elem Av ev g52 (by decide), trivial⟩, by decide⟩
  obtain ⟨cz, ecz⟩ := is_v (Cond.before_iff.mp (hsets _ (List.mem_of_getElem? (i := 1) rfl)))
  have SC : Sta s s.heap "java/lang/String" "COMPACT_STRINGS" "Z" (.int cz) := Sta.start ecz (Or.inl (hsets _ (List.mem_of_getElem? (i := 0) rfl)))
  have ncz := not_v (Cond.before_iff.mp (hsets _ (List.mem_of_getElem? (i := 2) rfl)))
  have hcz : ¬ (cz = (0 : Int32)) := gotF (Cond.eq_ints ecz (Term.int_eval (0))) ncz
  have hCH : CHv s own_EL s.vm s.heap := CHv.start (own_EW hw) (fun p hp => hcalls.1 p hp) (hsets _ (List.mem_of_getElem? (i := 2) rfl)) (hw _ (List.mem_of_getElem? (i := 6) rfl)) (hw _ (List.mem_of_getElem? (i := 5) rfl))
  obtain ⟨n, o, h1, h2, h3, _, L, rfl, ⟨rfl, N⟩, -, hq⟩ := rm_law l s _ hw tables_1 i0 wP wT wV cV.cls kP kT cz s.heap s.heap.size (Nat.le_refl _) (Old.start s) SP ST EEP EET SV AV EV FV FP FT BP BT SC hcz p e ha hc hk s m _ below hf ((Spec.applies_iff_loose hf).mp happ).1 ⟨rfl, State.Warmed39.refl s, rfl, hCH, fun _ q => nomatch q⟩ trivial
  refine ⟨n, _, h1, h2, h3, hpost _ _ _ _ _ _ ⟨Cond.after_iff.mpr rfl, Cond.after_iff.mpr (eq_i res_at (Term.int_eval (1)) rfl), trivial⟩ ⟨hq.1, hq.2.1, hq.2.2.1, (hq.2.2.2.sift fun y hy => Or.inr (N y hy)).mono (by decide) (by decide)⟩⟩
theorem main_1_1 : Claimed_1_1 := comes_1 fun _ _ _ _ _ _ h hF => ⟨h.1, hF⟩
theorem main_1_2 : Claimed_1_2 := comes_1 fun _ _ _ _ _ _ h hF => ⟨h.2.1, hF⟩
end Jvm.Pilot.@@N@@
namespace Jvm.Pilot.@@N@@
open Jvm Jvm.ClassFile Sem Op Lib Jvm.Free Jvm.Stand Jvm.Pilot.@@N@@.Jvm.D
/-! MADE BY PROGRAM (witnessworld.py) out of the Statement's table words and the real class files: 20 classes; the members and pool entries that the words name. The judged class is class 1, her method 1. -/
namespace start1
open Jvm.ClassFile
def u (s : String) : CpInfo := .utf8 (stringToUtf16 s)
/-- a pool by its gaps: so many unusable entries, then the entry; so many at the end -/
def gap : Nat → List CpInfo → List CpInfo
  | 0, r => r
  | n + 1, r => .unusable :: gap n r
def poolList (es : List (Nat × CpInfo)) (last : Nat) : List CpInfo := es.foldr (fun e r => gap e.1 (e.2 :: r)) (gap last [])
def pool (es : List (Nat × CpInfo)) (last : Nat) : Array CpInfo := ⟨poolList es last⟩
def fileOf (pool : Array CpInfo) (this : Nat) (attrs : Array Attribute := #[]) (ms : Array MethodInfo := #[]) (fl : Nat := 33) (sup : Nat := 0) (ifs : Array Nat := #[]) (fds : Array FieldInfo := #[]) : ClassFile where
  minorVersion := 0
  majorVersion := 65
  constantPool := pool
  accessFlags := fl
  thisClass := this
  superClass := sup
  interfaces := ifs
  fields := fds
  methods := ms
  attributes := attrs
def plain (name : String) (sup : Option ClassId) : Class where
  name := name
  kind := .ordinary
  loader := none
  accessFlags := 33
  super := sup
  interfaces := #[]
  cf := none
  fields := #[]
  methods := #[]
  instanceTypes := #[]
  staticTypes := #[]
  resolved := #[]
  callSites := []
  init := .initialized
  statics := none
  mirror := none

def pool0 : Array CpInfo := pool [(5, u "<init>"), (0, u "()V"), (1, .class_ 10), (1, u "java/lang/Object"), (85, u "clone"), (0, u "()Ljava/lang/Object;")] 26

def k0m0 : Method := { name := "<init>", desc := "()V", sig := { parameters := [], returnType := none }, accessFlags := 1, code := none }
def k0m1 : Method := { name := "clone", desc := "()Ljava/lang/Object;", sig := { parameters := [], returnType := some (.object "java/lang/Object") }, accessFlags := 260, code := none }
/-- java/lang/Object -/
def k0 : Class := { plain "java/lang/Object" none with
  accessFlags := 33
  interfaces := #[]
  cf := some (fileOf pool0 8 #[] #[{ accessFlags := 1, nameIndex := 5, descriptorIndex := 6, attributes := #[] }, { accessFlags := 260, nameIndex := 96, descriptorIndex := 97, attributes := #[] }] 33 0 #[] #[])
  fields := #[]
  methods := #[k0m0, k0m1]
  instanceTypes := #[]
  staticTypes := #[]
  resolved := Array.replicate 124 none
  statics := none }

def pool1 : Array CpInfo := pool [(2, .class_ 4), (1, u "java/lang/Object"), (0, u "<init>"), (0, u "()V"), (0, .fieldref 8 9), (0, .class_ 10), (0, .nameAndType 11 12), (0, u "com/example/indexwright/indexwright/bond/BondVariant"), (0, u "PRICE"), (0, u "Lcom/example/indexwright/indexwright/bond/BondVariant;"), (0, .fieldref 8 14), (0, .nameAndType 15 12), (0, u "TOTAL"), (0, .string 17), (0, u "price"), (0, .string 19), (0, u "total"), (0, .methodref 8 21), (0, .nameAndType 22 23), (0, u "keys"), (0, u "()[Ljava/lang/String;"), (0, .methodref 25 26), (0, .class_ 27), (0, .nameAndType 28 29), (0, u "java/lang/String"), (0, u "equals"), (0, u "(Ljava/lang/Object;)Z"), (0, .methodref 8 31), (0, .nameAndType 32 33), (0, u "key"), (0, u "()Ljava/lang/String;"), (0, .methodref 8 35), (0, .nameAndType 36 37), (0, u "of"), (0, u "(Ljava/lang/String;)Lcom/example/indexwright/indexwright/bond/BondVariant;"), (0, .class_ 39), (0, u "com/example/indexwright/indexwright/bond/BondVariantKeysPinLaw"), (2, u "law"), (0, u "(I)Z")] 5

def k1m0 : Method := { name := "<init>", desc := "()V", sig := { parameters := [], returnType := none }, accessFlags := 1, code := none }
def k1c1 : Code := { maxStack := 4, maxLocals := 7, code := code, exceptionTable := #[], attributes := #[] }
def k1m1 : Method := { name := "law", desc := "(I)Z", sig := { parameters := [.int], returnType := some .boolean }, accessFlags := 9, code := some k1c1 }
/-- com/example/indexwright/indexwright/bond/BondVariantKeysPinLaw -/
def k1 : Class := { plain "com/example/indexwright/indexwright/bond/BondVariantKeysPinLaw" (some 0) with
  accessFlags := 49
  interfaces := #[]
  cf := some (fileOf pool1 38 #[] #[{ accessFlags := 1, nameIndex := 5, descriptorIndex := 6, attributes := #[] }, { accessFlags := 9, nameIndex := 42, descriptorIndex := 43, attributes := #[] }] 49 2 #[] #[])
  fields := #[]
  methods := #[k1m0, k1m1]
  instanceTypes := #[]
  staticTypes := #[]
  resolved := Array.replicate 49 none
  statics := none }

def pool2 : Array CpInfo := pool [(1, .class_ 2), (0, u "java/lang/constant/Constable"), (0, .class_ 4), (0, u "java/lang/Object")] 6

/-- java/lang/constant/Constable -/
def k2 : Class := { plain "java/lang/constant/Constable" (some 0) with
  accessFlags := 1537
  interfaces := #[]
  cf := some (fileOf pool2 1 #[] #[] 1537 3 #[] #[])
  fields := #[]
  methods := #[]
  instanceTypes := #[]
  staticTypes := #[]
  resolved := Array.replicate 11 none
  statics := none }

def pool3 : Array CpInfo := pool [(1, .class_ 2), (0, u "java/lang/Comparable"), (0, .class_ 4), (0, u "java/lang/Object")] 7

/-- java/lang/Comparable -/
def k3 : Class := { plain "java/lang/Comparable" (some 0) with
  accessFlags := 1537
  interfaces := #[]
  cf := some (fileOf pool3 1 #[] #[] 1537 3 #[] #[])
  fields := #[]
  methods := #[]
  instanceTypes := #[]
  staticTypes := #[]
  resolved := Array.replicate 12 none
  statics := none }

def pool4 : Array CpInfo := pool [(1, .class_ 2), (0, u "java/io/Serializable"), (0, .class_ 4), (0, u "java/lang/Object")] 2

/-- java/io/Serializable -/
def k4 : Class := { plain "java/io/Serializable" (some 0) with
  accessFlags := 1537
  interfaces := #[]
  cf := some (fileOf pool4 1 #[] #[] 1537 3 #[] #[])
  fields := #[]
  methods := #[]
  instanceTypes := #[]
  staticTypes := #[]
  resolved := Array.replicate 7 none
  statics := none }

def pool5 : Array CpInfo := pool [(2, .class_ 4), (1, u "java/lang/Enum"), (0, u "name"), (0, u "Ljava/lang/String;"), (2, u "ordinal"), (0, u "I"), (1, .class_ 14), (1, u "java/lang/Object"), (4, u "hash"), (86, .class_ 108), (1, u "java/lang/Enum$EnumDesc"), (2, .class_ 112), (0, u "java/lang/constant/Constable"), (0, .class_ 114), (0, u "java/lang/Comparable"), (0, .class_ 116), (0, u "java/io/Serializable")] 87

/-- java/lang/Enum -/
def k5 : Class := { plain "java/lang/Enum" (some 0) with
  accessFlags := 1057
  interfaces := #[2, 3, 4]
  cf := some (fileOf pool5 2 #[.nestMembers #[106]] #[] 1057 12 #[111, 113, 115] #[{ accessFlags := 18, nameIndex := 5, descriptorIndex := 6, attributes := #[] }, { accessFlags := 18, nameIndex := 9, descriptorIndex := 10, attributes := #[] }, { accessFlags := 2, nameIndex := 19, descriptorIndex := 10, attributes := #[] }])
  fields := #[{ name := "name", type := (.object "java/lang/String"), accessFlags := 18, slot := 0, constantValue := 0 }, { name := "ordinal", type := .int, accessFlags := 18, slot := 1, constantValue := 0 }, { name := "hash", type := .int, accessFlags := 2, slot := 2, constantValue := 0 }]
  methods := #[]
  instanceTypes := #[(.object "java/lang/String"), .int, .int]
  staticTypes := #[]
  resolved := Array.replicate 204 none
  statics := none }

def pool6 : Array CpInfo := pool [(1, .class_ 2), (0, u "com/example/indexwright/indexwright/bond/BondVariant"), (2, u "PRICE"), (0, u "Lcom/example/indexwright/indexwright/bond/BondVariant;"), (2, u "TOTAL"), (0, .fieldref 1 11), (0, .nameAndType 12 13), (0, u "$VALUES"), (0, u "[Lcom/example/indexwright/indexwright/bond/BondVariant;"), (0, .methodref 15 16), (0, .class_ 13), (0, .nameAndType 17 18), (0, u "clone"), (0, u "()Ljava/lang/Object;"), (1, .class_ 22), (1, u "java/lang/Enum"), (6, .fieldref 1 30), (0, .nameAndType 31 32), (0, u "key"), (0, u "Ljava/lang/String;"), (0, .methodref 1 34), (0, .nameAndType 35 36), (0, u "values"), (0, u "()[Lcom/example/indexwright/indexwright/bond/BondVariant;"), (0, .methodref 38 39), (0, .class_ 40), (0, .nameAndType 41 42), (0, u "java/lang/String"), (0, u "equals"), (0, u "(Ljava/lang/Object;)Z"), (14, u "(Ljava/lang/String;)Lcom/example/indexwright/indexwright/bond/BondVariant;"), (3, u "()Ljava/lang/String;"), (0, u "of"), (1, u "keys"), (0, u "()[Ljava/lang/String;")] 7

def k6c0 : Code := { maxStack := 1, maxLocals := 0, code := prog_6_method_1_code, exceptionTable := #[], attributes := #[] }
def k6m0 : Method := { name := "values", desc := "()[Lcom/example/indexwright/indexwright/bond/BondVariant;", sig := { parameters := [], returnType := some (.array (.object "com/example/indexwright/indexwright/bond/BondVariant")) }, accessFlags := 9, code := some k6c0 }
def k6c1 : Code := { maxStack := 1, maxLocals := 1, code := prog_6_method_4_code, exceptionTable := #[], attributes := #[] }
def k6m1 : Method := { name := "key", desc := "()Ljava/lang/String;", sig := { parameters := [], returnType := some (.object "java/lang/String") }, accessFlags := 1, code := some k6c1 }
def k6c2 : Code := { maxStack := 2, maxLocals := 5, code := prog_6_method_5_code, exceptionTable := #[], attributes := #[] }
def k6m2 : Method := { name := "of", desc := "(Ljava/lang/String;)Lcom/example/indexwright/indexwright/bond/BondVariant;", sig := { parameters := [(.object "java/lang/String")], returnType := some (.object "com/example/indexwright/indexwright/bond/BondVariant") }, accessFlags := 8, code := some k6c2 }
def k6c3 : Code := { maxStack := 4, maxLocals := 3, code := prog_6_method_6_code, exceptionTable := #[], attributes := #[] }
def k6m3 : Method := { name := "keys", desc := "()[Ljava/lang/String;", sig := { parameters := [], returnType := some (.array (.object "java/lang/String")) }, accessFlags := 8, code := some k6c3 }
/-- com/example/indexwright/indexwright/bond/BondVariant -/
def k6 : Class := { plain "com/example/indexwright/indexwright/bond/BondVariant" (some 5) with
  accessFlags := 16433
  interfaces := #[]
  cf := some (fileOf pool6 1 #[] #[{ accessFlags := 9, nameIndex := 35, descriptorIndex := 36, attributes := #[] }, { accessFlags := 1, nameIndex := 31, descriptorIndex := 61, attributes := #[] }, { accessFlags := 8, nameIndex := 62, descriptorIndex := 57, attributes := #[] }, { accessFlags := 8, nameIndex := 64, descriptorIndex := 65, attributes := #[] }] 16433 20 #[] #[{ accessFlags := 16409, nameIndex := 5, descriptorIndex := 6, attributes := #[] }, { accessFlags := 16409, nameIndex := 9, descriptorIndex := 6, attributes := #[] }, { accessFlags := 18, nameIndex := 31, descriptorIndex := 32, attributes := #[] }, { accessFlags := 4122, nameIndex := 12, descriptorIndex := 13, attributes := #[] }])
  fields := #[{ name := "PRICE", type := (.object "com/example/indexwright/indexwright/bond/BondVariant"), accessFlags := 16409, slot := 0, constantValue := 0 }, { name := "TOTAL", type := (.object "com/example/indexwright/indexwright/bond/BondVariant"), accessFlags := 16409, slot := 1, constantValue := 0 }, { name := "key", type := (.object "java/lang/String"), accessFlags := 18, slot := 3, constantValue := 0 }, { name := "$VALUES", type := (.array (.object "com/example/indexwright/indexwright/bond/BondVariant")), accessFlags := 4122, slot := 2, constantValue := 0 }]
  methods := #[k6m0, k6m1, k6m2, k6m3]
  instanceTypes := #[(.object "java/lang/String"), .int, .int, (.object "java/lang/String")]
  staticTypes := #[(.object "com/example/indexwright/indexwright/bond/BondVariant"), (.object "com/example/indexwright/indexwright/bond/BondVariant"), (.array (.object "com/example/indexwright/indexwright/bond/BondVariant"))]
  resolved := Array.replicate 73 none
  statics := some 0 }

def pool7 : Array CpInfo := pool [(2, .class_ 4), (1, u "java/lang/CharSequence"), (42, .class_ 48), (0, u "java/lang/CharSequence$1CodePointIterator"), (10, .class_ 60), (0, u "java/lang/CharSequence$1CharIterator"), (5, .class_ 67), (0, u "java/lang/Object")] 63

/-- java/lang/CharSequence -/
def k7 : Class := { plain "java/lang/CharSequence" (some 0) with
  accessFlags := 1537
  interfaces := #[]
  cf := some (fileOf pool7 2 #[.nestMembers #[47, 59]] #[] 1537 66 #[] #[])
  fields := #[]
  methods := #[]
  instanceTypes := #[]
  staticTypes := #[]
  resolved := Array.replicate 131 none
  statics := none }

def pool8 : Array CpInfo := pool [(1, .class_ 2), (0, u "java/lang/constant/ConstantDesc"), (0, .class_ 4), (0, u "java/lang/Object")] 32

/-- java/lang/constant/ConstantDesc -/
def k8 : Class := { plain "java/lang/constant/ConstantDesc" (some 0) with
  accessFlags := 1537
  interfaces := #[]
  cf := some (fileOf pool8 1 #[] #[] 1537 3 #[] #[])
  fields := #[]
  methods := #[]
  instanceTypes := #[]
  staticTypes := #[]
  resolved := Array.replicate 37 none
  statics := none }

def pool9 : Array CpInfo := pool [(2, .class_ 4), (1, u "java/lang/Object"), (0, u "<init>"), (0, u "()V"), (2, .fieldref 10 11), (0, .class_ 12), (0, .nameAndType 13 14), (0, u "java/lang/String"), (0, u "value"), (0, u "[B"), (0, .fieldref 10 16), (0, .nameAndType 17 18), (0, u "coder"), (0, u "B"), (2, u "hash"), (0, u "I"), (2, u "hashIsZero"), (0, u "Z"), (11, .fieldref 10 39), (0, .nameAndType 40 26), (0, u "COMPACT_STRINGS"), (66, .class_ 109), (1, u "java/lang/StringLatin1"), (431, .methodref 107 542), (0, .nameAndType 543 544), (0, u "equals"), (0, u "([B[B)Z"), (28, u "(Ljava/lang/Object;)Z"), (1, .class_ 576), (0, u "java/lang/CharSequence"), (22, u "CASE_INSENSITIVE_ORDER"), (0, u "Ljava/util/Comparator;"), (500, u "serialPersistentFields"), (0, u "[Ljava/io/ObjectStreamField;"), (0, .class_ 1104), (0, u "java/lang/String$CaseInsensitiveComparator"), (1, .class_ 1107), (0, u "java/io/Serializable"), (0, .class_ 1109), (0, u "java/lang/Comparable"), (0, .class_ 1111), (0, u "java/lang/constant/Constable"), (0, .class_ 1113), (0, u "java/lang/constant/ConstantDesc"), (2, u "serialVersionUID"), (0, u "J"), (3, u "REPL"), (0, u "C"), (2, u "LATIN1"), (1, u "UTF16")] 323

def k9m0 : Method := { name := "<init>", desc := "()V", sig := { parameters := [], returnType := none }, accessFlags := 1, code := none }
def k9c1 : Code := { maxStack := 2, maxLocals := 3, code := jdk_42_method_66_code, exceptionTable := #[], attributes := #[] }
def k9m1 : Method := { name := "equals", desc := "(Ljava/lang/Object;)Z", sig := { parameters := [(.object "java/lang/Object")], returnType := some .boolean }, accessFlags := 1, code := some k9c1 }
/-- java/lang/String -/
def k9 : Class := { plain "java/lang/String" (some 0) with
  accessFlags := 49
  interfaces := #[4, 3, 7, 2, 8]
  cf := some (fileOf pool9 10 #[.nestMembers #[1103]] #[{ accessFlags := 1, nameIndex := 5, descriptorIndex := 6, attributes := #[] }, { accessFlags := 1, nameIndex := 543, descriptorIndex := 573, attributes := #[] }] 49 2 #[1106, 1108, 575, 1110, 1112] #[{ accessFlags := 18, nameIndex := 13, descriptorIndex := 14, attributes := #[] }, { accessFlags := 18, nameIndex := 17, descriptorIndex := 18, attributes := #[] }, { accessFlags := 2, nameIndex := 21, descriptorIndex := 22, attributes := #[] }, { accessFlags := 2, nameIndex := 25, descriptorIndex := 26, attributes := #[] }, { accessFlags := 26, nameIndex := 1116, descriptorIndex := 1117, attributes := #[] }, { accessFlags := 24, nameIndex := 40, descriptorIndex := 26, attributes := #[] }, { accessFlags := 26, nameIndex := 1101, descriptorIndex := 1102, attributes := #[] }, { accessFlags := 26, nameIndex := 1121, descriptorIndex := 1122, attributes := #[] }, { accessFlags := 25, nameIndex := 599, descriptorIndex := 600, attributes := #[] }, { accessFlags := 24, nameIndex := 1125, descriptorIndex := 18, attributes := #[] }, { accessFlags := 24, nameIndex := 1127, descriptorIndex := 18, attributes := #[] }])
  fields := #[{ name := "value", type := (.array .byte), accessFlags := 18, slot := 0, constantValue := 0 }, { name := "coder", type := .byte, accessFlags := 18, slot := 1, constantValue := 0 }, { name := "hash", type := .int, accessFlags := 2, slot := 2, constantValue := 0 }, { name := "hashIsZero", type := .boolean, accessFlags := 2, slot := 3, constantValue := 0 }, { name := "serialVersionUID", type := .long, accessFlags := 26, slot := 0, constantValue := 0 }, { name := "COMPACT_STRINGS", type := .boolean, accessFlags := 24, slot := 1, constantValue := 0 }, { name := "serialPersistentFields", type := (.array (.object "java/io/ObjectStreamField")), accessFlags := 26, slot := 2, constantValue := 0 }, { name := "REPL", type := .char, accessFlags := 26, slot := 3, constantValue := 0 }, { name := "CASE_INSENSITIVE_ORDER", type := (.object "java/util/Comparator"), accessFlags := 25, slot := 4, constantValue := 0 }, { name := "LATIN1", type := .byte, accessFlags := 24, slot := 5, constantValue := 0 }, { name := "UTF16", type := .byte, accessFlags := 24, slot := 6, constantValue := 0 }]
  methods := #[k9m0, k9m1]
  instanceTypes := #[(.array .byte), .byte, .int, .boolean]
  staticTypes := #[.long, .boolean, (.array (.object "java/io/ObjectStreamField")), .char, (.object "java/util/Comparator"), .byte, .byte]
  resolved := Array.replicate 1451 none
  statics := some 1 }

def pool10 : Array CpInfo := pool [(1, .class_ 2), (0, u "java/lang/Cloneable"), (0, .class_ 4), (0, u "java/lang/Object")] 2

/-- java/lang/Cloneable -/
def k10 : Class := { plain "java/lang/Cloneable" (some 0) with
  accessFlags := 1537
  interfaces := #[]
  cf := some (fileOf pool10 1 #[] #[] 1537 3 #[] #[])
  fields := #[]
  methods := #[]
  instanceTypes := #[]
  staticTypes := #[]
  resolved := Array.replicate 7 none
  statics := none }

def pool11 : Array CpInfo := pool [(4, .class_ 6), (1, u "java/lang/Object"), (0, u "<init>"), (0, u "()V"), (5, .class_ 16), (1, u "java/lang/StringLatin1"), (104, u "$assertionsDisabled"), (0, u "Z"), (98, .class_ 223), (1, u "java/lang/StringLatin1$LinesSpliterator"), (57, u "equals"), (0, u "([B[B)Z"), (107, .class_ 391), (0, u "java/lang/StringLatin1$CharsSpliterator")] 3

def k11m0 : Method := { name := "<init>", desc := "()V", sig := { parameters := [], returnType := none }, accessFlags := 0, code := none }
def k11c1 : Code := { maxStack := 3, maxLocals := 3, code := jdk_43_method_13_code, exceptionTable := #[], attributes := #[] }
def k11m1 : Method := { name := "equals", desc := "([B[B)Z", sig := { parameters := [(.array .byte), (.array .byte)], returnType := some .boolean }, accessFlags := 9, code := some k11c1 }
/-- java/lang/StringLatin1 -/
def k11 : Class := { plain "java/lang/StringLatin1" (some 0) with
  accessFlags := 48
  interfaces := #[]
  cf := some (fileOf pool11 14 #[.nestMembers #[390, 221]] #[{ accessFlags := 0, nameIndex := 7, descriptorIndex := 8, attributes := #[] }, { accessFlags := 9, nameIndex := 281, descriptorIndex := 282, attributes := #[] }] 48 4 #[] #[{ accessFlags := 4120, nameIndex := 121, descriptorIndex := 122, attributes := #[] }])
  fields := #[{ name := "$assertionsDisabled", type := .boolean, accessFlags := 4120, slot := 0, constantValue := 0 }]
  methods := #[k11m0, k11m1]
  instanceTypes := #[]
  staticTypes := #[.boolean]
  resolved := Array.replicate 395 none
  statics := none }

def pool12 : Array CpInfo := pool [(2, .class_ 4), (1, u "java/lang/Object"), (0, u "<init>"), (0, u "()V"), (17, .class_ 26), (1, u "jdk/internal/util/Preconditions"), (28, .class_ 56), (0, u "jdk/internal/util/Preconditions$4"), (57, .class_ 115), (0, u "jdk/internal/util/Preconditions$1"), (7, u "SIOOBE_FORMATTER"), (0, u "Ljava/util/function/BiFunction;"), (0, .class_ 126), (0, u "jdk/internal/util/Preconditions$2"), (3, u "AIOOBE_FORMATTER"), (0, .class_ 132), (0, u "jdk/internal/util/Preconditions$3"), (3, u "IOOBE_FORMATTER")] 57

def k12m0 : Method := { name := "<init>", desc := "()V", sig := { parameters := [], returnType := none }, accessFlags := 1, code := none }
/-- jdk/internal/util/Preconditions -/
def k12 : Class := { plain "jdk/internal/util/Preconditions" (some 0) with
  accessFlags := 33
  interfaces := #[]
  cf := some (fileOf pool12 24 #[.nestMembers #[55, 131, 125, 114]] #[{ accessFlags := 1, nameIndex := 5, descriptorIndex := 6, attributes := #[] }] 33 2 #[] #[{ accessFlags := 25, nameIndex := 123, descriptorIndex := 124, attributes := #[] }, { accessFlags := 25, nameIndex := 130, descriptorIndex := 124, attributes := #[] }, { accessFlags := 25, nameIndex := 136, descriptorIndex := 124, attributes := #[] }])
  fields := #[{ name := "SIOOBE_FORMATTER", type := (.object "java/util/function/BiFunction"), accessFlags := 25, slot := 0, constantValue := 0 }, { name := "AIOOBE_FORMATTER", type := (.object "java/util/function/BiFunction"), accessFlags := 25, slot := 1, constantValue := 0 }, { name := "IOOBE_FORMATTER", type := (.object "java/util/function/BiFunction"), accessFlags := 25, slot := 2, constantValue := 0 }]
  methods := #[k12m0]
  instanceTypes := #[]
  staticTypes := #[(.object "java/util/function/BiFunction"), (.object "java/util/function/BiFunction"), (.object "java/util/function/BiFunction")]
  resolved := Array.replicate 194 none
  statics := some 2 }

def pool13 : Array CpInfo := pool [(9, u "<init>"), (6, .class_ 18), (1, u "java/lang/Object"), (0, u "()V"), (1, .class_ 23), (1, u "jdk/internal/util/ArraysSupport"), (0, u "LOG2_ARRAY_LONG_INDEX_SCALE"), (0, u "I"), (2, u "U"), (0, u "Ljdk/internal/misc/Unsafe;"), (8, u "BIG_ENDIAN"), (0, u "Z"), (8, u "LOG2_BYTE_BIT_SIZE"), (4, u "LOG2_ARRAY_INT_INDEX_SCALE"), (54, u "JLA"), (0, u "Ljdk/internal/access/JavaLangAccess;"), (11, u "LOG2_ARRAY_BOOLEAN_INDEX_SCALE"), (9, u "LOG2_ARRAY_BYTE_INDEX_SCALE"), (5, u "LOG2_ARRAY_CHAR_INDEX_SCALE"), (5, u "LOG2_ARRAY_SHORT_INDEX_SCALE"), (18, u "LOG2_ARRAY_FLOAT_INDEX_SCALE"), (24, u "LOG2_ARRAY_DOUBLE_INDEX_SCALE"), (89, u "T_BOOLEAN"), (2, u "T_CHAR"), (1, u "T_FLOAT"), (1, u "T_DOUBLE"), (1, u "T_BYTE"), (1, u "T_SHORT"), (1, u "T_INT"), (1, u "T_LONG"), (1, u "SOFT_MAX_ARRAY_LENGTH")] 83

def k13m0 : Method := { name := "<init>", desc := "()V", sig := { parameters := [], returnType := none }, accessFlags := 2, code := none }
/-- jdk/internal/util/ArraysSupport -/
def k13 : Class := { plain "jdk/internal/util/ArraysSupport" (some 0) with
  accessFlags := 33
  interfaces := #[]
  cf := some (fileOf pool13 21 #[] #[{ accessFlags := 2, nameIndex := 9, descriptorIndex := 19, attributes := #[] }] 33 16 #[] #[{ accessFlags := 24, nameIndex := 28, descriptorIndex := 29, attributes := #[] }, { accessFlags := 26, nameIndex := 38, descriptorIndex := 39, attributes := #[] }, { accessFlags := 25, nameIndex := 121, descriptorIndex := 25, attributes := #[] }, { accessFlags := 25, nameIndex := 131, descriptorIndex := 25, attributes := #[] }, { accessFlags := 25, nameIndex := 137, descriptorIndex := 25, attributes := #[] }, { accessFlags := 25, nameIndex := 143, descriptorIndex := 25, attributes := #[] }, { accessFlags := 25, nameIndex := 53, descriptorIndex := 25, attributes := #[] }, { accessFlags := 25, nameIndex := 24, descriptorIndex := 25, attributes := #[] }, { accessFlags := 25, nameIndex := 162, descriptorIndex := 25, attributes := #[] }, { accessFlags := 25, nameIndex := 187, descriptorIndex := 25, attributes := #[] }, { accessFlags := 26, nameIndex := 48, descriptorIndex := 25, attributes := #[] }, { accessFlags := 25, nameIndex := 277, descriptorIndex := 25, attributes := #[] }, { accessFlags := 25, nameIndex := 280, descriptorIndex := 25, attributes := #[] }, { accessFlags := 25, nameIndex := 282, descriptorIndex := 25, attributes := #[] }, { accessFlags := 25, nameIndex := 284, descriptorIndex := 25, attributes := #[] }, { accessFlags := 25, nameIndex := 286, descriptorIndex := 25, attributes := #[] }, { accessFlags := 25, nameIndex := 288, descriptorIndex := 25, attributes := #[] }, { accessFlags := 25, nameIndex := 290, descriptorIndex := 25, attributes := #[] }, { accessFlags := 25, nameIndex := 292, descriptorIndex := 25, attributes := #[] }, { accessFlags := 26, nameIndex := 108, descriptorIndex := 109, attributes := #[] }, { accessFlags := 25, nameIndex := 294, descriptorIndex := 25, attributes := #[] }])
  fields := #[{ name := "U", type := (.object "jdk/internal/misc/Unsafe"), accessFlags := 24, slot := 0, constantValue := 0 }, { name := "BIG_ENDIAN", type := .boolean, accessFlags := 26, slot := 1, constantValue := 0 }, { name := "LOG2_ARRAY_BOOLEAN_INDEX_SCALE", type := .int, accessFlags := 25, slot := 2, constantValue := 0 }, { name := "LOG2_ARRAY_BYTE_INDEX_SCALE", type := .int, accessFlags := 25, slot := 3, constantValue := 0 }, { name := "LOG2_ARRAY_CHAR_INDEX_SCALE", type := .int, accessFlags := 25, slot := 4, constantValue := 0 }, { name := "LOG2_ARRAY_SHORT_INDEX_SCALE", type := .int, accessFlags := 25, slot := 5, constantValue := 0 }, { name := "LOG2_ARRAY_INT_INDEX_SCALE", type := .int, accessFlags := 25, slot := 6, constantValue := 0 }, { name := "LOG2_ARRAY_LONG_INDEX_SCALE", type := .int, accessFlags := 25, slot := 7, constantValue := 0 }, { name := "LOG2_ARRAY_FLOAT_INDEX_SCALE", type := .int, accessFlags := 25, slot := 8, constantValue := 0 }, { name := "LOG2_ARRAY_DOUBLE_INDEX_SCALE", type := .int, accessFlags := 25, slot := 9, constantValue := 0 }, { name := "LOG2_BYTE_BIT_SIZE", type := .int, accessFlags := 26, slot := 10, constantValue := 0 }, { name := "T_BOOLEAN", type := .int, accessFlags := 25, slot := 11, constantValue := 0 }, { name := "T_CHAR", type := .int, accessFlags := 25, slot := 12, constantValue := 0 }, { name := "T_FLOAT", type := .int, accessFlags := 25, slot := 13, constantValue := 0 }, { name := "T_DOUBLE", type := .int, accessFlags := 25, slot := 14, constantValue := 0 }, { name := "T_BYTE", type := .int, accessFlags := 25, slot := 15, constantValue := 0 }, { name := "T_SHORT", type := .int, accessFlags := 25, slot := 16, constantValue := 0 }, { name := "T_INT", type := .int, accessFlags := 25, slot := 17, constantValue := 0 }, { name := "T_LONG", type := .int, accessFlags := 25, slot := 18, constantValue := 0 }, { name := "JLA", type := (.object "jdk/internal/access/JavaLangAccess"), accessFlags := 26, slot := 19, constantValue := 0 }, { name := "SOFT_MAX_ARRAY_LENGTH", type := .int, accessFlags := 25, slot := 20, constantValue := 0 }]
  methods := #[k13m0]
  instanceTypes := #[]
  staticTypes := #[(.object "jdk/internal/misc/Unsafe"), .boolean, .int, .int, .int, .int, .int, .int, .int, .int, .int, .int, .int, .int, .int, .int, .int, .int, .int, (.object "jdk/internal/access/JavaLangAccess"), .int]
  resolved := Array.replicate 378 none
  statics := none }

/-- the primitive byte -/
def k14 : Class := { plain "byte" none with kind := .primitive 'B', accessFlags := 0x411 }
/-- [B -/
def k15 : Class := { plain "[B" (some 0) with kind := .array 14 .byte, interfaces := #[10, 4], accessFlags := 1041 }

/-- the primitive int -/
def k16 : Class := { plain "int" none with kind := .primitive 'I', accessFlags := 0x411 }
/-- [I -/
def k17 : Class := { plain "[I" (some 0) with kind := .array 16 .int, interfaces := #[10, 4], accessFlags := 1041 }

/-- [Lcom/example/indexwright/indexwright/bond/BondVariant; -/
def k18 : Class := { plain "[Lcom/example/indexwright/indexwright/bond/BondVariant;" (some 0) with kind := .array 6 (.object "com/example/indexwright/indexwright/bond/BondVariant"), interfaces := #[10, 4], accessFlags := 1041 }

/-- [Ljava/lang/String; -/
def k19 : Class := { plain "[Ljava/lang/String;" (some 0) with kind := .array 9 (.object "java/lang/String"), interfaces := #[10, 4], accessFlags := 1041 }

def heap : Heap := #[{ cls := 6, slots := #[.ref 4, .ref 5, .ref 3], vm := .statics 6 },
  { cls := 9, slots := #[.long 0, .int 1, .null, .int 0, .null, .int 0, .int 0], vm := .statics 9 },
  { cls := 12, slots := #[.null, .null, .null], vm := .statics 12 },
  { cls := 18, slots := #[.ref 4, .ref 5], vm := .none },
  { cls := 6, slots := #[.null, .int 0, .int 0, .ref 6], vm := .none },
  { cls := 6, slots := #[.null, .int 0, .int 0, .ref 7], vm := .none },
  { cls := 9, slots := #[.ref 8, .int 0, .int 0, .int 0], vm := .none },
  { cls := 9, slots := #[.ref 9, .int 0, .int 0, .int 0], vm := .none },
  { cls := 15, slots := #[.int 112, .int 114, .int 105, .int 99, .int 101], vm := .none },
  { cls := 15, slots := #[.int 116, .int 111, .int 116, .int 97, .int 108], vm := .none }]
def classes : Array Class := #[k0, k1, k2, k3, k4, k5, k6, k7, k8, k9, k10, k11, k12, k13, k14, k15, k16, k17, k18, k19]
def interned : List (Array UInt16 × Addr) := []
def slotsUsed : Nat := 41
def theMethod : MethodId := ⟨1, 1⟩
def args0 : Array Value := #[.int 5]
def aboutOver (below : List Frame) : State where
  vm := { classes := classes, interned := interned.toArray }
  heap := heap
  slotsUsed := slotsUsed
  threads := #[{ frames := .invoking theMethod args0 :: below }]
def below0 : List Frame := [.native { method := ⟨0, 0⟩, args := #[] }]
def about1 : State := aboutOver below0
def p0 : Program := .bare "" "" ""
def e0 : Env := launch0.env 0 0 0
theorem w_frames : about1.frames = Frame.invoking theMethod args0 :: below0 := rfl
set_option maxRecDepth 65536 in
theorem w_args : argsFit about1.vm theMethod args0 = true := by decide +kernel
set_option maxRecDepth 65536 in
theorem w_heap : heapFits about1 = true := by decide +kernel
set_option maxRecDepth 65536 in
theorem w_runnable : about1.curStatus? = some .runnable := by decide +kernel
set_option maxRecDepth 65536 in
theorem w_alone : about1.alone = true := by decide +kernel
set_option maxRecDepth 65536 in
theorem w_named : about1.methodNamed? x = some theMethod := by decide +kernel
set_option maxRecDepth 65536 in
theorem w_hears : about1.hears theMethod below0 = true := by decide +kernel
set_option maxRecDepth 65536 in
theorem w_ripe : about1.ripe theMethod args0 below0 = true := by decide +kernel
theorem w_running : about1.status = .running := rfl
set_option maxRecDepth 65536 in
theorem w_room : about1.hasRoom e0.platform room_1 = true :=
  launch0.hasRoom_least _ room_1 (by decide +kernel) (by decide +kernel) (by decide +kernel) (by decide +kernel) (by decide +kernel) (by decide +kernel)
theorem allAtoms_all (ts : List Jvm.Cond) (a : Array Jvm.Value) (st : Jvm.State) : (allAtoms ts).before a st = ts.all (fun c => c.before a st) := by
  induction ts with
  | nil => rfl
  | cons c t ih =>
    show (Jvm.Cond.and c (allAtoms t)).before a st = _
    rw [Jvm.Cond.before_and, ih, List.all_cons]
def words1 : List Jvm.Cond := Jvm.Cond.code x code maxLocals ret :: tables_1
/-- a 'code' word, met by the world's own term for the bytes: nothing is compared byte by byte -/
theorem code_word {y : MethodName} {bytes : ByteArray} {mx : Nat} {rt : Option FieldType} {a : Array Value} {s : State} {m : MethodId} {meth : Method} {c : Code} (h1 : s.methodNamed? y = some m) (h2 : s.vm.method? m = some meth) (h3 : meth.code = some c) (h4 : c.code = bytes)
    (h5 : (c.maxLocals == mx && c.exceptionTable.isEmpty && decide (c.maxStack ≤ mostOperands) && decide (meth.sig.returnType = rt) && !meth.locks && decide (parseMethodDescriptor y.desc = some meth.sig)) = true) : (Jvm.Cond.code y bytes mx rt).before a s = true := by
  simp only [Bool.and_eq_true, beq_iff_eq, Bool.not_eq_true', decide_eq_true_eq] at h5
  obtain ⟨⟨⟨⟨⟨g1, g2⟩, g3⟩, g4⟩, g5⟩, g6⟩ := h5
  simp [Cond.before, Cond.holds, Cond.value, h1, h2, h3, h4, g1, g2, g3, g4, g5, g6]
def isCode : Jvm.Cond → Bool
  | .code _ _ _ _ => true
  | _ => false
theorem all_split {L : List Jvm.Cond} {P : Jvm.Cond → Bool} (h1 : L.all (fun c => isCode c || P c) = true) (h2 : ∀ c ∈ L.filter isCode, P c = true) : L.all P = true := by
  refine List.all_eq_true.mpr fun c hc => ?_
  have h := List.all_eq_true.mp h1 c hc
  rcases Bool.eq_false_or_eq_true (isCode c) with hi | hi
  · exact h2 c (List.mem_filter.mpr ⟨hc, hi⟩)
  · simpa [hi] using h
set_option maxRecDepth 65536 in
theorem w_c0 : (Jvm.Cond.code x code maxLocals ret).before args0 about1 = true := code_word (m := ⟨1, 1⟩) (meth := k1m1) (c := k1c1) (by decide +kernel) rfl rfl rfl (by decide +kernel)
set_option maxRecDepth 65536 in
theorem w_c1 : (Jvm.Cond.code ({ cls := "com/example/indexwright/indexwright/bond/BondVariant", name := "keys", desc := "()[Ljava/lang/String;" } : Jvm.MethodName) prog_6_method_6_code (3 : Nat) (Option.some (Jvm.ClassFile.FieldType.array (Jvm.ClassFile.FieldType.object "java/lang/String")))).before args0 about1 = true := code_word (m := ⟨6, 3⟩) (meth := k6m3) (c := k6c3) (by decide +kernel) rfl rfl rfl (by decide +kernel)
set_option maxRecDepth 65536 in
theorem w_c2 : (Jvm.Cond.code ({ cls := "com/example/indexwright/indexwright/bond/BondVariant", name := "values", desc := "()[Lcom/example/indexwright/indexwright/bond/BondVariant;" } : Jvm.MethodName) prog_6_method_1_code (0 : Nat) (Option.some (Jvm.ClassFile.FieldType.array (Jvm.ClassFile.FieldType.object "com/example/indexwright/indexwright/bond/BondVariant")))).before args0 about1 = true := code_word (m := ⟨6, 0⟩) (meth := k6m0) (c := k6c0) (by decide +kernel) rfl rfl rfl (by decide +kernel)
set_option maxRecDepth 65536 in
theorem w_c3 : (Jvm.Cond.code ({ cls := "java/lang/String", name := "equals", desc := "(Ljava/lang/Object;)Z" } : Jvm.MethodName) jdk_42_method_66_code (3 : Nat) (Option.some Jvm.ClassFile.FieldType.boolean)).before args0 about1 = true := code_word (m := ⟨9, 1⟩) (meth := k9m1) (c := k9c1) (by decide +kernel) rfl rfl rfl (by decide +kernel)
set_option maxRecDepth 65536 in
theorem w_c4 : (Jvm.Cond.code ({ cls := "java/lang/StringLatin1", name := "equals", desc := "([B[B)Z" } : Jvm.MethodName) jdk_43_method_13_code (3 : Nat) (Option.some Jvm.ClassFile.FieldType.boolean)).before args0 about1 = true := code_word (m := ⟨11, 1⟩) (meth := k11m1) (c := k11c1) (by decide +kernel) rfl rfl rfl (by decide +kernel)
set_option maxRecDepth 65536 in
theorem w_c5 : (Jvm.Cond.code ({ cls := "com/example/indexwright/indexwright/bond/BondVariant", name := "key", desc := "()Ljava/lang/String;" } : Jvm.MethodName) prog_6_method_4_code (1 : Nat) (Option.some (Jvm.ClassFile.FieldType.object "java/lang/String"))).before args0 about1 = true := code_word (m := ⟨6, 1⟩) (meth := k6m1) (c := k6c1) (by decide +kernel) rfl rfl rfl (by decide +kernel)
set_option maxRecDepth 65536 in
theorem w_c6 : (Jvm.Cond.code ({ cls := "com/example/indexwright/indexwright/bond/BondVariant", name := "of", desc := "(Ljava/lang/String;)Lcom/example/indexwright/indexwright/bond/BondVariant;" } : Jvm.MethodName) prog_6_method_5_code (5 : Nat) (Option.some (Jvm.ClassFile.FieldType.object "com/example/indexwright/indexwright/bond/BondVariant"))).before args0 about1 = true := code_word (m := ⟨6, 2⟩) (meth := k6m2) (c := k6c2) (by decide +kernel) rfl rfl rfl (by decide +kernel)
def codes1 : List Jvm.Cond := [Jvm.Cond.code x code maxLocals ret, Jvm.Cond.code ({ cls := "com/example/indexwright/indexwright/bond/BondVariant", name := "keys", desc := "()[Ljava/lang/String;" } : Jvm.MethodName) prog_6_method_6_code (3 : Nat) (Option.some (Jvm.ClassFile.FieldType.array (Jvm.ClassFile.FieldType.object "java/lang/String"))), Jvm.Cond.code ({ cls := "com/example/indexwright/indexwright/bond/BondVariant", name := "values", desc := "()[Lcom/example/indexwright/indexwright/bond/BondVariant;" } : Jvm.MethodName) prog_6_method_1_code (0 : Nat) (Option.some (Jvm.ClassFile.FieldType.array (Jvm.ClassFile.FieldType.object "com/example/indexwright/indexwright/bond/BondVariant"))), Jvm.Cond.code ({ cls := "java/lang/String", name := "equals", desc := "(Ljava/lang/Object;)Z" } : Jvm.MethodName) jdk_42_method_66_code (3 : Nat) (Option.some Jvm.ClassFile.FieldType.boolean), Jvm.Cond.code ({ cls := "java/lang/StringLatin1", name := "equals", desc := "([B[B)Z" } : Jvm.MethodName) jdk_43_method_13_code (3 : Nat) (Option.some Jvm.ClassFile.FieldType.boolean), Jvm.Cond.code ({ cls := "com/example/indexwright/indexwright/bond/BondVariant", name := "key", desc := "()Ljava/lang/String;" } : Jvm.MethodName) prog_6_method_4_code (1 : Nat) (Option.some (Jvm.ClassFile.FieldType.object "java/lang/String")), Jvm.Cond.code ({ cls := "com/example/indexwright/indexwright/bond/BondVariant", name := "of", desc := "(Ljava/lang/String;)Lcom/example/indexwright/indexwright/bond/BondVariant;" } : Jvm.MethodName) prog_6_method_5_code (5 : Nat) (Option.some (Jvm.ClassFile.FieldType.object "com/example/indexwright/indexwright/bond/BondVariant"))]
set_option maxRecDepth 65536 in
theorem codes_eq : words1.filter isCode = codes1 := rfl
theorem w_codes : ∀ c ∈ words1.filter isCode, c.before args0 about1 = true := by
  rw [codes_eq]
  intro c hc
  simp only [codes1, List.mem_cons, List.not_mem_nil, or_false] at hc
  rcases hc with rfl | rfl | rfl | rfl | rfl | rfl | rfl
  · exact w_c0
  · exact w_c1
  · exact w_c2
  · exact w_c3
  · exact w_c4
  · exact w_c5
  · exact w_c6
set_option maxRecDepth 65536 in
theorem w_t1 : (words1.take 24).all (fun c => isCode c || c.before args0 about1) = true := by decide +kernel
set_option maxRecDepth 65536 in
theorem w_t2 : ((words1.drop 24).take 24).all (fun c => isCode c || c.before args0 about1) = true := by decide +kernel
set_option maxRecDepth 65536 in
theorem w_t3 : ((words1.drop 24).drop 24).all (fun c => isCode c || c.before args0 about1) = true := by decide +kernel
theorem w_tables : (allAtoms (Jvm.Cond.code x code maxLocals ret :: tables_1)).before args0 about1 = true := by
  rw [allAtoms_all]
  show words1.all (fun c => c.before args0 about1) = true
  refine all_split ?_ w_codes
  rw [← List.take_append_drop 24 words1, List.all_append, w_t1, ← List.take_append_drop 24 (words1.drop 24), List.all_append, w_t2, w_t3]
  rfl
set_option maxRecDepth 65536 in
theorem w_rest : rest_1_c.before args0 about1 = true := by decide +kernel
set_option maxRecDepth 65536 in
theorem w_case : (Jvm.Cond.and given_1 narrow_1).before args0 about1 = true := by decide +kernel
set_option maxRecDepth 65536 in
theorem w_consts : constsHeld consts_1 about1 := Jvm.Lit.constsHeldB_iff.mp (by decide +kernel)
theorem w_applies : (headSpec (Jvm.Cond.code x code maxLocals ret :: tables_1) room_1).applies x e0.platform about1 = true :=
  (Spec.applies_iff w_frames).mpr ⟨w_running, w_runnable, w_alone, w_named, w_hears, w_ripe, w_room, w_tables⟩
theorem atStart : AtStart classFile x code maxLocals ret World_1 tables_1 room_1 Calls_1 rest_1 Pre_1 launch0 p0 e0 about1 theMethod args0 below0 :=
  ⟨lists_1, trivial, launch0.admits_env _ _ _, launch0.least_env, fairChoices_fair.cas, fairChoices_fair.clock, w_frames, w_args, w_heap, w_applies, ⟨w_consts, trivial⟩, w_rest, w_case⟩
end start1
theorem witness_1 : WitnessClaimed_1 := ⟨start1.p0, start1.e0, start1.about1, start1.theMethod, start1.args0, start1.below0, start1.atStart⟩
end Jvm.Pilot.@@N@@
