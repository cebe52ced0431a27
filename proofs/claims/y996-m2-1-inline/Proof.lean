import JvmDerived
import JvmDerived.Pilot.@@N@@Statement
import JvmDerived.Pilot.@@N@@Code
set_option linter.unusedVariables false
set_option linter.unusedSimpArgs false
namespace Jvm.RoadKit
open Sem ClassFile Op Lib Jvm.Stand Jvm.Free Jvm.LawKit
section OwnNew
variable {p : Program} {l : Launch} {e : Env} {R : Room} {s : State} {m : MethodId} {args : Array Value} {below : List Frame} {meth : Method} {c : Code} {T : State} {locs : List Loc} {cells slots : Nat} {h : Heap}
/-- from S the run comes to an end of which Q holds -/
def OwnGo (p : Program) (e : Env) (below : List Frame) (S : State) (Q : Outcome → State → Prop) : Prop :=
  ∃ s₂ o, Steps p.tables e below S s₂ ∧ s₂.status = .running ∧ Ended s₂ below o ∧ Q o s₂
theorem own_go {S : State} {Q : Outcome → State → Prop} (k : OwnGo p e below S Q) : ∃ s₂ o, Steps p.tables e below S s₂ ∧ s₂.status = .running ∧ Ended s₂ below o ∧ Q o s₂ := k
theorem own_back {S S' : State} {Q : Outcome → State → Prop} (h : ∀ t, Steps p.tables e below S' t → Steps p.tables e below S t) (k : OwnGo p e below S' Q) : OwnGo p e below S Q := by
  obtain ⟨s2, o, h1, h2⟩ := k
  exact ⟨s2, o, h _ h1, h2⟩
theorem own_seq {S S' : State} {Q : Outcome → State → Prop} (h : Steps p.tables e below S S') (k : OwnGo p e below S' Q) : OwnGo p e below S Q := own_back (fun _ ht => h.trans ht) k
abbrev OwnEnd (s : State) (Qf : Option Value → Heap → List Loc → Prop) (C S : Nat) : Outcome → State → Prop := fun o U' => ∃ v L, o = .returned v ∧ Qf v U'.heap L ∧ FrameEnd s o U' L C S
theorem own_end (X : Stand p l e R s m args below meth c T locs cells slots) (hlocks : meth.locks = false) {v : Option Value} (hv : meth.sig.returnType = none → v = none) {S : State} {Qf : Option Value → Heap → List Loc → Prop} {C Sl : Nat} (eT : T.heap = h) (hc : cells ≤ C) (hs : slots ≤ Sl) (hq : Qf v h locs)
    (step : ∀ fs : List Frame, (∀ (f : JFrame) (acts : List Action), f.method = m → f.locked = none → f.entered = [] → (doReturn e (T.setTop f) acts v).1 = T.setFrames fs) → Steps p.tables e below S (T.setFrames fs)) : OwnGo p e below S (OwnEnd s Qf C Sl) := by
  obtain ⟨fs, hr, hrun, hended, hW, hsame⟩ := X.leave (v := v) hv hlocks
  refine ⟨_, _, step fs hr, hrun, hended, v, locs, rfl, ?_, ⟨_, rfl⟩, hW, hsame.mono hc hs⟩
  show Qf v T.heap locs
  rw [eT]; exact hq
theorem own_hat {T : State} {h : Heap} {a : Addr} {c : Cell} (e : T.heap = h) (q : h[a]? = some c) : T.heap[a]? = some c := by rw [e]; exact q
theorem own_hle {T : State} {h : Heap} {k : Nat} (e : T.heap = h) (q : k ≤ h.size) : k ≤ T.heap.size := by rw [e]; exact q
theorem own_backN {Z : State} {a0 : Array Value} {y : MethodName} {bytes : ByteArray} {maxL : Nat} {ret : Option FieldType} {rm : Room} {len W : Nat} {as' : Array Value} {Q : Option Value → Heap → List Loc → Prop}
    (hM : MetFree l y (head1 [Cond.code y bytes maxL ret] rm) (fun a U => a = as' ∧ Z.Warmed39 U.vm ∧ U.heap = h) (fun _ _ _ _ _ => True) (fun _ U o U' => OwnEnd U Q rm.cells rm.slots o U'))
    (hZ : Z.Warmed39 s.vm) (wc : (Cond.code y bytes maxL ret).before a0 Z = true) (wz : (Cond.initialized y.cls).before a0 Z = true) (hf : rm.frames + 1 ≤ R.frames) (hl : W + (maxL + 11) + rm.locals ≤ R.locals) :
    Back l R p e below s args y len W (fun A a => a = as' ∧ A.U.heap = h ∧ A.cells + rm.cells ≤ R.cells ∧ A.slots + rm.slots ≤ R.slots)
      (fun A _ v B => ∃ L, Q v B.U.heap L ∧ B.locs = A.locs ++ L ∧ B.cells = A.cells + rm.cells ∧ B.slots = A.slots + rm.slots) := backOf (Q := Q) hM hZ wc wz hf hl
theorem own_retN (X : Stand p l e R s m args below meth c T locs cells slots) (hx : p.tables.exec = Jvm.exec) (hlocks : meth.locks = false) {pc : Nat} {Ls : Array Slot} {z : Int32} {t : FieldType} {rest : List Value} (hret : meth.sig.returnType = some t) (ht : t = .boolean ∨ t = .byte ∨ t = .char ∨ t = .short) (hn : nar t z = z)
    (hd : decode c.code pc = .ok (.ireturn, 1)) {Qf : Option Value → Heap → List Loc → Prop} {C Sl : Nat} (eT : T.heap = h) (hc : cells ≤ C) (hs : slots ≤ Sl) (hq : Qf (some (.int z)) h locs) : OwnGo p e below (T.setTop (mkF m pc Ls (.int z :: rest))) (OwnEnd s Qf C Sl) :=
  own_end X hlocks (fun h => by rw [hret] at h; cases h) eT hc hs hq fun fs hr => retN X hx hret ht hd (by rw [hn]; exact hr)
theorem own_retI (X : Stand p l e R s m args below meth c T locs cells slots) (hx : p.tables.exec = Jvm.exec) (hlocks : meth.locks = false) {pc : Nat} {Ls : Array Slot} {z : Int32} {rest : List Value} (hret : meth.sig.returnType = some .int)
    (hd : decode c.code pc = .ok (.ireturn, 1)) {Qf : Option Value → Heap → List Loc → Prop} {C Sl : Nat} (eT : T.heap = h) (hc : cells ≤ C) (hs : slots ≤ Sl) (hq : Qf (some (.int z)) h locs) : OwnGo p e below (T.setTop (mkF m pc Ls (.int z :: rest))) (OwnEnd s Qf C Sl) :=
  own_end X hlocks (fun h => by rw [hret] at h; cases h) eT hc hs hq fun fs hr => retOut X hx hret rfl (Or.inl ⟨rfl, Or.inl rfl, z, rfl⟩) hd hr
theorem own_retJ (X : Stand p l e R s m args below meth c T locs cells slots) (hx : p.tables.exec = Jvm.exec) (hlocks : meth.locks = false) {pc : Nat} {Ls : Array Slot} {z : Int64} {rest : List Value} (hret : meth.sig.returnType = some .long)
    (hd : decode c.code pc = .ok (.lreturn, 1)) {Qf : Option Value → Heap → List Loc → Prop} {C Sl : Nat} (eT : T.heap = h) (hc : cells ≤ C) (hs : slots ≤ Sl) (hq : Qf (some (.long z)) h locs) : OwnGo p e below (T.setTop (mkF m pc Ls (.long z :: rest))) (OwnEnd s Qf C Sl) :=
  own_end X hlocks (fun h => by rw [hret] at h; cases h) eT hc hs hq fun fs hr => retOut X hx hret rfl (Or.inr (Or.inl ⟨rfl, rfl, z, rfl⟩)) hd hr
theorem own_narA {t : FieldType} {w : Value} (h : w.isRef = true) : narrow t w = w := by
  rcases ref_cases h with rfl | ⟨a, rfl⟩ <;> cases t <;> rfl
theorem own_retA (X : Stand p l e R s m args below meth c T locs cells slots) (hx : p.tables.exec = Jvm.exec) (hlocks : meth.locks = false) {pc : Nat} {Ls : Array Slot} {w : Value} {t : FieldType} {rest : List Value} (hret : meth.sig.returnType = some t) (ht : t.isReference = true) (hw : w.isRef = true)
    (hd : decode c.code pc = .ok (.areturn, 1)) {Qf : Option Value → Heap → List Loc → Prop} {C Sl : Nat} (eT : T.heap = h) (hc : cells ≤ C) (hs : slots ≤ Sl) (hq : Qf (some w) h locs) : OwnGo p e below (T.setTop (mkF m pc Ls (w :: rest))) (OwnEnd s Qf C Sl) :=
  own_end X hlocks (fun h => by rw [hret] at h; cases h) eT hc hs hq fun fs hr => retOut X hx hret (own_narA hw) (Or.inr (Or.inr (Or.inr (Or.inr ⟨rfl, ht, hw⟩)))) hd hr
theorem own_retV (X : Stand p l e R s m args below meth c T locs cells slots) (hx : p.tables.exec = Jvm.exec) (hlocks : meth.locks = false) {pc : Nat} {Ls : Array Slot} (hret : meth.sig.returnType = none)
    (hd : decode c.code pc = .ok (.return_, 1)) {Qf : Option Value → Heap → List Loc → Prop} {C Sl : Nat} (eT : T.heap = h) (hc : cells ≤ C) (hs : slots ≤ Sl) (hq : Qf none h locs) : OwnGo p e below (T.setTop (mkF m pc Ls [])) (OwnEnd s Qf C Sl) :=
  own_end X hlocks (fun _ => rfl) eT hc hs hq fun fs hr => X.returnOut hx hret hd hr
end OwnNew
section OwnTerms
variable {args : Array Value} {first s : State} {o : Option Outcome} {idx : List Nat} {t u : Term}
theorem own_eqint {k : Int32} (h : (Cond.eq t (.int k)).value args first o s idx = some true) : t.eval args first o idx s = some (.int k) := by
  cases ha : t.eval args first o idx s with
  | none => simp [Cond.value, ha] at h
  | some x =>
    have hb : (Term.int k).eval args first o idx s = some (.int k) := Term.int_eval k
    cases x <;> simp [Cond.value, ha, hb, Value.isRef] at h ⊢
    exact h
theorem own_eqref {w : Addr} (hu : u.eval args first o idx s = some (.ref w)) (h : (Cond.eq t u).value args first o s idx = some true) : t.eval args first o idx s = some (.ref w) := by
  cases ha : t.eval args first o idx s with
  | none => simp [Cond.value, ha] at h
  | some x =>
    cases x <;> simp [Cond.value, ha, hu, Value.isRef] at h ⊢
    exact h
end OwnTerms
section OwnArr
variable {s : State} {args : Array Value} {t u : Term} {a : Addr} {c : Cell} {ty : FieldType}
theorem own_nat32 {n : Nat} (h : n < 2 ^ 31) : n.toInt32.toNatClampNeg = n := by
  have e : n.toInt32.toInt = n := Int32.toInt_ofNat_of_lt h
  have := nat_of (j := n.toInt32) (by rw [Int32.lt_iff_toInt_lt, e]; have z : (0 : Int32).toInt = 0 := rfl; omega)
  omega
theorem own_len {n : Int32} (A : Arr s s.heap a c ty) (et : t.eval args s none [] s = some (.ref a)) (h : (Cond.eq (.length t) (.int n)).value args s none s [] = some true) {k : Nat} (hk : n.toNatClampNeg = k := by rfl) : c.slots.size = k := by
  have e := own_eqint h
  have ha : s.arrayAt? a = some c := IntBox.arrayAt_of A.1 A.2.1 A.2.2
  by_cases hl : c.slots.size < 2 ^ 31
  · rw [len_f et ha hl] at e
    have e2 : c.slots.size.toInt32 = n := by injection e with e; injection e
    rw [← hk, ← e2]
    exact (own_nat32 hl).symm
  · simp [Term.eval, et, ha, hl] at e
theorem own_elem {j k : Int32} (A : Arr s s.heap a c ty) (et : t.eval args s none [] s = some (.ref a)) (h : (Cond.eq (.elem t (.int j)) (.int k)).value args s none s [] = some true) (hj : ¬ j < 0) : c.slots[j.toNatClampNeg]? = some (.int k) := by
  have e := own_eqint h
  have ha : s.arrayAt? a = some c := IntBox.arrayAt_of A.1 A.2.1 A.2.2
  rw [elem_f et (Term.int_eval j) ha hj] at e
  exact e
theorem own_elemR {j : Int32} {w : Addr} (A : Arr s s.heap a c ty) (et : t.eval args s none [] s = some (.ref a)) (hu : u.eval args s none [] s = some (.ref w)) (h : (Cond.eq (.elem t (.int j)) u).value args s none s [] = some true) (hj : ¬ j < 0) : c.slots[j.toNatClampNeg]? = some (.ref w) := by
  have e := own_eqref hu h
  have ha : s.arrayAt? a = some c := IntBox.arrayAt_of A.1 A.2.1 A.2.2
  rw [elem_f et (Term.int_eval j) ha hj] at e
  exact e
end OwnArr
section OwnMore
variable {Z : State} {h h' : Heap}
theorem own_arr_ne {a b : Addr} {c d : Cell} {t u : FieldType} (A : Arr Z h a c t) (B : Arr Z h b d u) (q : t ≠ u) : a ≠ b := fun e => by
  subst e
  cases A.1.symm.trans B.1
  obtain ⟨-, k1, h1, cp1, h2⟩ := A.2.1
  obtain ⟨-, k2, h3, cp2, h4⟩ := B.2.1
  cases h1.symm.trans h3
  rw [h2] at h4
  injection h4 with _ h5
  exact q h5
theorem own_arv_ne {a b : Addr} {k k' : ClassId} {t u : FieldType} {z z' : Int32} {vs vs' : List Value} {d d' : Value} (A : Arv Z h a k t z vs d) (B : Arv Z h b k' u z' vs' d') (q : t ≠ u) : a ≠ b := by
  obtain ⟨c, A, -⟩ := A
  obtain ⟨c', B, -⟩ := B
  exact own_arr_ne A B q
theorem own_ext (K : Keep h h' []) : Ext h h' := ⟨K.1, fun x c q => K.2.1 x c q nin0⟩
theorem own_fitA {t : FieldType} {w : Value} (hw : w.isRef = true) (ht : t.isReference = true := by rfl) : fits t w = true := by
  rcases ref_cases hw with rfl | ⟨a, rfl⟩ <;> cases t <;> first | rfl | cases ht
end OwnMore
section OwnRem
variable {p : Program} {l : Launch} {e : Env} {R : Room} {s : State} {m : MethodId} {args : Array Value} {below : List Frame} {meth : Method} {c : Code} {T : State} {locs : List Loc} {cells slots : Nat}
theorem own_lrem {g : JFrame} {target : State} (X : Stand p l e R s m args below meth c T locs cells slots) (hx : p.tables.exec = Jvm.exec) (hg : g.method = m) {x y : Int64} {rest : List Value} (hd : decode c.code g.pc = .ok (.lrem, 1)) (hs : g.stack = .long y :: .long x :: rest) (hy : y ≠ 0)
    (hr : Steps p.tables e below (T.setTop { g with pc := g.pc + 1, stack := .long (x % y) :: rest }) target) : Steps p.tables e below (T.setTop g) target :=
  XS.lrem X.here hx hg hd hs hy (by rw [lrem_mod]; exact hr)
end OwnRem
end Jvm.RoadKit
namespace Jvm.RoadKit
open Sem ClassFile Op Lib Bundle Jvm.Stand Jvm.Free Jvm.LawKit Jvm.Free.SB Jvm.Free.SBG
section OwnWide
variable {p : Program} {l : Launch} {e : Env} {R : Room} {s : State} {m : MethodId} {args : Array Value} {below : List Frame} {meth : Method} {c : Code} {T : State} {locs : List Loc} {cells slots : Nat} {h h0 : Heap} {Z : State} {a0 : Array Value} {EL : List (String × Nat)} {vm0 : Vm} {k0 : Nat}
abbrev OwnEndW (Z : State) (EL : List (String × Nat)) (s : State) (Qf : Option Value → Heap → List Loc → Prop) (C S : Nat) : Outcome → State → Prop := fun o U' => ∃ v L, o = .returned v ∧ Qf v U'.heap L ∧ CHr Z EL s.vm s.heap U'.vm U'.heap ∧ ReturnedEndW s o U' L C S
theorem own_endW (X : Stand p l e R (s.setVm vm0) m args below meth c T locs cells slots) (hlocks : meth.locks = false) {v : Option Value} (hv : meth.sig.returnType = none → v = none) {S : State} {Qf : Option Value → Heap → List Loc → Prop} {C Sl : Nat}
    (hS : s.Since vm0 k0) (hk : k0 ≤ h.size) (hZ : Z.Warmed39 (s.setVm vm0).vm) (hEL : EW Z a0 EL) (CR : CHr Z EL s.vm s.heap vm0 h) (eT : T.heap = h) (hc : cells ≤ C) (hs : slots ≤ Sl) (hq : Qf v h locs)
    (step : ∀ fs : List Frame, (∀ (f : JFrame) (acts : List Action), f.method = m → f.locked = none → f.entered = [] → (doReturn e (T.setTop f) acts v).1 = T.setFrames fs) → Steps p.tables e below S (T.setFrames fs)) : OwnGo p e below S (OwnEndW Z EL s Qf C Sl) := by
  obtain ⟨fs, hr, hrun, hended, hw1, hw2, hw3, hw4⟩ := X.leaveW (v := v) hS (by rw [eT]; exact hk) hv hlocks
  refine ⟨_, _, step fs hr, hrun, hended, v, locs, rfl, ?_, ?_, hw1, hw2, hw3, hw4.mono hc hs⟩
  · show Qf v T.heap locs
    rw [eT]; exact hq
  · show CHr Z EL s.vm s.heap T.vm T.heap
    rw [eT]; exact CR.trans (CHv.at X hZ hEL CR.1)
theorem own_retNW (X : Stand p l e R (s.setVm vm0) m args below meth c T locs cells slots) (hx : p.tables.exec = Jvm.exec) (hlocks : meth.locks = false) {pc : Nat} {Ls : Array Slot} {z : Int32} {t : FieldType} {rest : List Value} (hret : meth.sig.returnType = some t) (ht : t = .boolean ∨ t = .byte ∨ t = .char ∨ t = .short) (hn : nar t z = z)
    (hS : s.Since vm0 k0) (hk : k0 ≤ h.size) (hZ : Z.Warmed39 (s.setVm vm0).vm) (hEL : EW Z a0 EL) (CR : CHr Z EL s.vm s.heap vm0 h)
    (hd : decode c.code pc = .ok (.ireturn, 1)) {Qf : Option Value → Heap → List Loc → Prop} {C Sl : Nat} (eT : T.heap = h) (hc : cells ≤ C) (hs : slots ≤ Sl) (hq : Qf (some (.int z)) h locs) : OwnGo p e below (T.setTop (mkF m pc Ls (.int z :: rest))) (OwnEndW Z EL s Qf C Sl) :=
  own_endW X hlocks (fun h => by rw [hret] at h; cases h) hS hk hZ hEL CR eT hc hs hq fun fs hr => retN X hx hret ht hd (by rw [hn]; exact hr)
theorem own_retIW (X : Stand p l e R (s.setVm vm0) m args below meth c T locs cells slots) (hx : p.tables.exec = Jvm.exec) (hlocks : meth.locks = false) {pc : Nat} {Ls : Array Slot} {z : Int32} {rest : List Value} (hret : meth.sig.returnType = some .int)
    (hS : s.Since vm0 k0) (hk : k0 ≤ h.size) (hZ : Z.Warmed39 (s.setVm vm0).vm) (hEL : EW Z a0 EL) (CR : CHr Z EL s.vm s.heap vm0 h)
    (hd : decode c.code pc = .ok (.ireturn, 1)) {Qf : Option Value → Heap → List Loc → Prop} {C Sl : Nat} (eT : T.heap = h) (hc : cells ≤ C) (hs : slots ≤ Sl) (hq : Qf (some (.int z)) h locs) : OwnGo p e below (T.setTop (mkF m pc Ls (.int z :: rest))) (OwnEndW Z EL s Qf C Sl) :=
  own_endW X hlocks (fun h => by rw [hret] at h; cases h) hS hk hZ hEL CR eT hc hs hq fun fs hr => retOut X hx hret rfl (Or.inl ⟨rfl, Or.inl rfl, z, rfl⟩) hd hr
theorem own_retJW (X : Stand p l e R (s.setVm vm0) m args below meth c T locs cells slots) (hx : p.tables.exec = Jvm.exec) (hlocks : meth.locks = false) {pc : Nat} {Ls : Array Slot} {z : Int64} {rest : List Value} (hret : meth.sig.returnType = some .long)
    (hS : s.Since vm0 k0) (hk : k0 ≤ h.size) (hZ : Z.Warmed39 (s.setVm vm0).vm) (hEL : EW Z a0 EL) (CR : CHr Z EL s.vm s.heap vm0 h)
    (hd : decode c.code pc = .ok (.lreturn, 1)) {Qf : Option Value → Heap → List Loc → Prop} {C Sl : Nat} (eT : T.heap = h) (hc : cells ≤ C) (hs : slots ≤ Sl) (hq : Qf (some (.long z)) h locs) : OwnGo p e below (T.setTop (mkF m pc Ls (.long z :: rest))) (OwnEndW Z EL s Qf C Sl) :=
  own_endW X hlocks (fun h => by rw [hret] at h; cases h) hS hk hZ hEL CR eT hc hs hq fun fs hr => retOut X hx hret rfl (Or.inr (Or.inl ⟨rfl, rfl, z, rfl⟩)) hd hr
theorem own_retAW (X : Stand p l e R (s.setVm vm0) m args below meth c T locs cells slots) (hx : p.tables.exec = Jvm.exec) (hlocks : meth.locks = false) {pc : Nat} {Ls : Array Slot} {w : Value} {t : FieldType} {rest : List Value} (hret : meth.sig.returnType = some t) (ht : t.isReference = true) (hw : w.isRef = true)
    (hS : s.Since vm0 k0) (hk : k0 ≤ h.size) (hZ : Z.Warmed39 (s.setVm vm0).vm) (hEL : EW Z a0 EL) (CR : CHr Z EL s.vm s.heap vm0 h)
    (hd : decode c.code pc = .ok (.areturn, 1)) {Qf : Option Value → Heap → List Loc → Prop} {C Sl : Nat} (eT : T.heap = h) (hc : cells ≤ C) (hs : slots ≤ Sl) (hq : Qf (some w) h locs) : OwnGo p e below (T.setTop (mkF m pc Ls (w :: rest))) (OwnEndW Z EL s Qf C Sl) :=
  own_endW X hlocks (fun h => by rw [hret] at h; cases h) hS hk hZ hEL CR eT hc hs hq fun fs hr => retOut X hx hret (own_narA hw) (Or.inr (Or.inr (Or.inr (Or.inr ⟨rfl, ht, hw⟩)))) hd hr
theorem own_retVW (X : Stand p l e R (s.setVm vm0) m args below meth c T locs cells slots) (hx : p.tables.exec = Jvm.exec) (hlocks : meth.locks = false) {pc : Nat} {Ls : Array Slot} (hret : meth.sig.returnType = none)
    (hS : s.Since vm0 k0) (hk : k0 ≤ h.size) (hZ : Z.Warmed39 (s.setVm vm0).vm) (hEL : EW Z a0 EL) (CR : CHr Z EL s.vm s.heap vm0 h)
    (hd : decode c.code pc = .ok (.return_, 1)) {Qf : Option Value → Heap → List Loc → Prop} {C Sl : Nat} (eT : T.heap = h) (hc : cells ≤ C) (hs : slots ≤ Sl) (hq : Qf none h locs) : OwnGo p e below (T.setTop (mkF m pc Ls [])) (OwnEndW Z EL s Qf C Sl) :=
  own_endW X hlocks (fun _ => rfl) hS hk hZ hEL CR eT hc hs hq fun fs hr => X.returnOut hx hret hd hr
/-- a callee that may intern and keeps the invariant; the cells SL are no booked Strings' -/
theorem own_backH {y : MethodName} {bytes : ByteArray} {maxL : Nat} {ret : Option FieldType} {rm : Room} {len W : Nat} {as' : Array Value} {Q : Option Value → Heap → List Loc → Prop} {SL : List Addr}
    (hM : MetFree l y (head1 [Cond.code y bytes maxL ret] rm) (fun a U => a = as' ∧ Z.Warmed39 U.vm ∧ U.heap = h ∧ CHv Z EL U.vm h ∧ ∀ x ∈ SL, Safe Z EL U.vm h x) (fun _ _ _ _ _ => True) (fun _ U o U' => OwnEndW Z EL U Q rm.cells rm.slots o U'))
    (hZ : Z.Warmed39 (s.setVm vm0).vm) (wc : (Cond.code y bytes maxL ret).before a0 Z = true) (wz : (Cond.initialized y.cls).before a0 Z = true) (hf : rm.frames + 1 ≤ R.frames) (hl : W + (maxL + 11) + rm.locals ≤ R.locals) (hEL : EW Z a0 EL) (H : CHv Z EL vm0 h) (hsf : ∀ x ∈ SL, Safe Z EL vm0 h x) (hlt : ∀ x ∈ SL, x < h.size) :
    BackS l R p e below (s.setVm vm0) args y len W (fun A a => a = as' ∧ A.U.heap = h ∧ A.cells + rm.cells ≤ R.cells ∧ A.slots + rm.slots ≤ R.slots)
      (fun A _ v B => ∃ L, Q v B.U.heap L ∧ B.locs = A.locs ++ L ∧ B.cells = A.cells + rm.cells ∧ B.slots = A.slots + rm.slots ∧ CHr Z EL vm0 h B.U.vm B.U.heap) :=
  have hZ' : Z.Warmed39 vm0 := hZ
  BackS.of_freeW (bytes := bytes) (maxL := maxL) (ret := ret) (E := fun _ first o t L k n => k = rm.cells ∧ n = rm.slots ∧ (∃ v, o = .returned v ∧ Q v t.heap L) ∧ CHr Z EL first.vm first.heap t.vm t.heap) hM hf hl
    (fun m meth c A a Y hp => have hU : Z.Warmed39 A.U.vm := wtrans (s := s.setVm vm0) hZ' Y.warmed
      ⟨by show (Cond.and _ .tt).before a A.U = true; rw [Cond.before_and, mv hU wc]; rfl, mv hU wc, mv hU wz, hp.2.2.1, hp.2.2.2⟩)
    (fun m meth c A a g mk Y hp => ⟨hp.1, wtrans (s := s.setVm vm0) hZ' Y.warmed, hp.2.1, (CHv.at Y hZ' hEL H).1, fun x hx => (CHv.at Y hZ' hEL H).safe (hlt x hx) (hsf x hx)⟩) (fun _ _ _ _ _ _ _ _ _ => trivial)
    (fun _ _ _ _ ⟨v, L, h1, h2, h3, h4⟩ => ⟨L, _, _, h4, rfl, rfl, ⟨v, h1, h2⟩, h3⟩)
    (fun m meth c A a g mk v t L k n Y hp _ _ ⟨e1, e2, ⟨v', e3, e4⟩, e5⟩ => by
      cases e3; subst e1 e2
      refine ⟨L, e4, rfl, rfl, rfl, (CHv.at Y hZ' hEL H).trans ?_⟩
      rw [← hp.2.1]; exact e5)
/-- where a wide walk stands: all that its steps ask, bundled -/
def OwnSt (p : Program) (l : Launch) (e : Env) (R : Room) (s : State) (m : MethodId) (args : Array Value) (below : List Frame) (meth : Method) (c : Code) (Z : State) (EL : List (String × Nat)) (own : String) (n0 : Nat) (h0 : Heap) (ws : List Addr) (T : State) (h : Heap) (cells slots : Nat) : Prop :=
  ∃ (vm0 : Vm) (k0 : Nat) (locs : List Loc), Stand p l e R (s.setVm vm0) m args below meth c T locs cells slots ∧ T.heap = h ∧ s.Since vm0 k0 ∧ k0 ≤ h.size ∧ Z.Warmed39 (s.setVm vm0).vm ∧ (s.setVm vm0).vm.findClass own = some m.cls ∧ CHr Z EL s.vm h0 vm0 h ∧ Old Z n0 h ∧ Keep h0 h ws ∧ n0 ≤ h.size ∧ Fr n0 locs
end OwnWide
end Jvm.RoadKit
namespace Jvm.RoadKit
open Sem ClassFile Op Lib Bundle Jvm.Stand Jvm.Free Jvm.LawKit Jvm.Free.SB Jvm.Free.SBG
/-- the class of a booked constant's bytes -/
theorem own_litB {s Z : State} {EL : List (String × Nat)} {own : String} {index : Nat} {text : String} {vm : Vm} {h : Heap} {a b : Addr} {a0 : Array Value} {cl : ClassId} (hW : Z.Warmed39 vm) (w : (Cond.stringLink own index text).before a0 Z = true) (hf : vm.findClass own = some cl) (hmem : (own, index) ∈ EL) (H : CHv Z EL vm h) (hL : Lit (s.setVm vm) own index a) (F : Fld Z h a "java/lang/String" "value" "[B" (.ref b)) : Exa Z h b "[B" := by
  have hal : Z.vm.Alike vm := hW.alike
  have w2 : (Cond.stringLink own index text).before a0 (Wst Z vm h) = true := mvS (s := { Z with heap := h }) hW w
  obtain ⟨k0', cf, i, units, hkx, hcf, hp, hu, -, htext, -⟩ := Cond.stringLink_spec (s := Wst Z vm h) hf w2
  have hres : k0'.resolved[index]? = some (some (.string a)) := by
    have q : (s.setVm vm).resolvedAt? own index = some (.string a) := hL
    have hk' : vm.classes[cl]? = some k0' := hkx
    simp [State.resolvedAt?, hf, hk'] at q
    cases hr : k0'.resolved[index]? with
    | none => rw [hr] at q; cases q
    | some o => rw [hr] at q; cases o with
      | none => cases q
      | some r => simpa using q
  obtain ⟨q, hqa, G⟩ := SlB.of (H _ hmem units a ⟨cl, k0', cf, i, hf, hkx, hcf, hp, hu, Or.inl hres⟩)
  obtain ⟨cS, ⟨⟨s1, s2, s3, ⟨cv, kv, iv, s4, s4'⟩, ⟨cc, kc, ic, s5, s5'⟩, s6, s7, s8, s9, s10, s11, s12, s13, s14, s15, s16⟩, hfS, hcS⟩, -, hB, hbyt⟩ := G
  subst hqa
  have hB : vm.findClass "[B" = some q.SA.cls := hB
  obtain ⟨kv', z4⟩ := ff_back (U := Wst Z vm h) hal s4
  have F2 : Fld Z h q.sa "java/lang/String" "value" "[B" (.ref q.sd) := ⟨q.sC, cv, kv', iv, q.fSV, s1, z4, s6, s2, s3, by rw [← hal.assignable]; exact s4', s8⟩
  have e : b = q.sd := Decidable.byContradiction fun z => Fld.ne F F2 (fun y => z (Value.ref.inj y)) rfl
  subst e
  have hBZ : Z.vm.findClass "[B" = some q.SA.cls := by rw [← hal.findClass]; exact hB
  obtain ⟨kb, hkb, -⟩ := Vm.findClass_spec hBZ
  obtain ⟨kb', hkb', ekb⟩ := hal.2.2 _ _ hkb
  obtain ⟨hst, k9, hk9, comp, hkind9⟩ := s11
  have hk9 : vm.classes[q.SA.cls]? = some k9 := hk9
  have ek9 : k9 = kb' := Option.some.inj (hk9.symm.trans hkb')
  refine ⟨q.SA, kb, s10, hBZ, hkb, ?_, fun y => ?_⟩
  · cases hv : q.SA.vm with
    | statics k => exact absurd hv (hst k)
    | _ => rfl
  · rw [ek9, ekb] at hkind9
    rw [show kb.kind = _ from hkind9] at y
    cases y
/-- the class of a byte[] that bears the class's number -/
theorem own_exaB {Z : State} {h : Heap} {t : Addr} {kb : ClassId} {z : Int32} {vs : List Value} {d : Value} (f : Z.vm.findClass "[B" = some kb) (A : Arv Z h t kb .byte z vs d) : Exa Z h t "[B" := by
  obtain ⟨c, ⟨h1, ⟨hst, k, hk, comp, kk⟩, h3⟩, rfl, -⟩ := A
  refine ⟨c, k, h1, f, hk, ?_, fun q => by rw [kk] at q; cases q⟩
  cases hv : c.vm with
  | statics k => exact absurd hv (hst k)
  | _ => rfl
theorem own_fitB {Z : State} {h : Heap} {t : Addr} {k : ClassId} {z : Int32} {vs : List Value} {d : Value} {c : Cell} (A : Arv Z h t k .byte z vs d) (hc : h[t]? = some c) : FitC Z c := by
  obtain ⟨c', ⟨h1, ⟨hst, kc, hk, comp, kk⟩, h3⟩, rfl, h5, h6, h7, h8⟩ := A
  cases h1.symm.trans hc
  intro i v hv
  have hi : i < c.slots.size := (Array.getElem?_eq_some_iff.mp hv).1
  have e := h7 i hi
  have g := h8 i hi
  rw [hv] at e
  cases e
  unfold State.fitsSlot State.slotType?
  simp [hk, kk]
  exact g
/-- a String is no instance of a plain class whose name is another -/
theorem own_noinst {Z : State} {a0 : Array Value} {C O K : String} {n : Nat} (w : (Cond.superclass C O).before a0 Z = true) (wo : (Cond.noSuperclass O).before a0 Z = true) (wi : (Cond.instantiable K n).before a0 Z = true) (h1 : C ≠ K) (h2 : O ≠ K) : ∃ c t, Z.vm.findClass C = some c ∧ Z.vm.findClass K = some t ∧ Z.vm.assignable c t = false := by
  obtain ⟨t, kt, g1, g2, g3, g4, -, -⟩ := Cond.instantiable_spec wi
  obtain ⟨o, ko, f1, f2, f3, -, -⟩ := Cond.noSuperclass_spec wo
  obtain ⟨c, e0⟩ := found_sup w
  obtain ⟨p, k, kp, e1, e2, e3, e4, e5, -, e7⟩ := Cond.superclass_spec e0 w
  cases f1.symm.trans e1
  have n1 := ids_ne e0 g1 h1
  have n2 := ids_ne f1 g1 h2
  have g5 : kt.isInterface = false := by
    cases hi : kt.isInterface with
    | false => rfl
    | true => rw [hi] at g4; exact absurd g4 (by simp)
  refine ⟨c, t, e0, g1, ?_⟩
  have sub : ∀ fuel, Z.vm.isSubclassAux fuel o t = false := fun fuel => by
    cases fuel with
    | zero => rfl
    | succ f => simp [Vm.isSubclassAux, n2, f2, f3]
  have sub2 : ∀ fuel, Z.vm.isSubclassAux fuel c t = false := fun fuel => by
    cases fuel with
    | zero => rfl
    | succ f => simp [Vm.isSubclassAux, n1, e2, e4, sub]
  show Z.vm.assignableAux (255 + 1) c t = false
  simp [Vm.assignableAux, n1, e2, g2, e5, g3, g5, Vm.isSubclass, sub2]
end Jvm.RoadKit
namespace Jvm
open ClassFile Sem Op Lib Bundle Jvm.Free Jvm.Free.SB Jvm.Free.SBG Jvm.LawKit Jvm.Stand Jvm.RoadKit
section OwnLdcW
variable {p : Program} {l : Launch} {e : Env} {R : Room} {s : State} {m : MethodId} {args : Array Value} {below : List Frame} {meth : Method} {c : Code} {T : State} {locs : List Loc} {cells slots : Nat}
/-- T, its entry noted as the String a -/
abbrev ownNoted (T : State) (cl : ClassId) (ix : Nat) (a : Addr) : State := T.setVm (T.vm.noted cl ix (.string a))
/-- T, with the String of these units made, interned and noted -/
abbrev ownMadeVm (T : State) (cl : ClassId) (ix : Nat) (units : Array UInt16) : Vm := ({ T.vm with interned := T.vm.interned.push (units, T.heap.size + 1) } : Vm).noted cl ix (.string (T.heap.size + 1))
abbrev ownMade (T : State) (cB cS : ClassId) (kS : Class) (fv fc : Field) (cl : ClassId) (ix : Nat) (units : Array UInt16) : State := (withString T cB cS kS fv fc units).setVm (ownMadeVm T cl ix units)
theorem ownMade_heap (T : State) (cB cS : ClassId) (kS : Class) (fv fc : Field) (cl : ClassId) (ix : Nat) (units : Array UInt16) : (ownMade T cB cS kS fv fc cl ix units).heap = (T.heap.push (bytesOf cB units)).push (stringAt cS kS fv fc units T.heap.size) := by
  show (withString T cB cS kS fv fc units).heap = _
  rw [withString_eq]
  rfl
theorem own_found (T : State) (units : Array UInt16) (hf : T.vm.interned.find? (fun p => p.1 == units) = none) : ({ T.vm with interned := T.vm.interned.push (units, T.heap.size + 1) } : Vm).interned.find? (fun p => p.1 == units) = some (units, T.heap.size + 1) := by
  show (T.vm.interned.push (units, T.heap.size + 1)).find? _ = _
  rw [Array.find?_push, hf]; simp
/-- ldc_w of a String constant: what the kit's law of ldc says (RW14), by ColdLdcW's steps -/
theorem own_ldcwN (X : Stand p l e R s m args below meth c T locs cells slots) (hexec : p.tables.exec = Jvm.exec) {own text : String} {index : Nat} (hown : s.vm.findClass own = some m.cls)
    (hlink : (Cond.stringLink own index text).before args s = true) (hS : ∀ a ∈ Bundle.stringAtoms, a.before args s = true)
    {g : JFrame} (hg : g.method = m) (hdg : decode c.code g.pc = .ok (.ldc_w index, 3)) {n : Nat} (hn : 4 * text.toList.length ≤ n) (hbig : n ≤ 536870912) (hRcells : cells + 2 ≤ R.cells) (hRslots : slots + (n + 4) ≤ R.slots) :
    ∃ (a : Addr) (U : State), Stand p l e R (s.setVm U.vm) m args below meth c U locs (cells + 2) (slots + (n + 4)) ∧ s.Since U.vm U.heap.size ∧ (∃ k₂, U.vm.classes[m.cls]? = some k₂ ∧ k₂.resolved[index]? = some (some (.string a))) ∧ (∀ a0, a0 < T.heap.size → U.heap[a0]? = T.heap[a0]?) ∧ T.Warmed39 U.vm ∧
      (U.vm.interned = T.vm.interned ∨ ∃ units : Array UInt16, U.vm.interned = T.vm.interned.push (units, a) ∧ T.vm.interned.find? (fun p => p.1 == units) = none ∧ (units.all (· < 256) = true → SlIn 0 T.heap.size U a units)) ∧
      ∀ target, Steps p.tables e below (U.setTop { g with pc := g.pc + 3, stack := .ref a :: g.stack }) target → Steps p.tables e below (T.setTop g) target := by
  subst hg
  obtain ⟨k, cf, i, units, hk, hcf, hc, hu, hnm, hdec, hres⟩ := Cond.stringLink_spec hown hlink
  obtain ⟨k', hk', he⟩ := X.warmed.alike.2.2 _ _ hk
  have hcf' : k'.cf = some cf := by rw [he]; exact hcf
  have hsize : (stringBytes units).size ≤ n := Nat.le_trans (text_bytes_le hdec) hn
  have hb : ∀ kk : Class, kk.cf = some cf → kk.cf.bind (namesOf? ·.constantPool index) = some (.string text) ∧ kk.cf.bind (·.constantPool[index]?) = some (.string i) ∧ kk.cf.bind (·.constantPool.utf8? i) = some units := fun kk h => by
    rw [h]; exact ⟨hnm, hc, by simp [ConstantPool.utf8?, hu]⟩
  obtain ⟨q2, q3, q4⟩ := hb k hcf
  obtain ⟨r2, r3, r4⟩ := hb k' hcf'
  have hnow : (k'.resolved[index]? = some none ∧ k.resolved[index]? = some none) ∨ ∃ a, k'.resolved[index]? = some (some (.string a)) := by
    rcases X.warmed.wide.entry hk hk' index with e0 | ⟨-, r, e1, hr | ⟨a, t, rfl, -⟩⟩
    · exact hres.imp (fun h0 => ⟨e0.trans h0, h0⟩) (fun ⟨a, h0⟩ => ⟨a, e0.trans h0⟩)
    · exfalso
      cases r <;> simp [State.rightAt, hk, hcf, hnm] at hr
    · exact Or.inr ⟨a, e1⟩
  rcases hnow with ⟨hopen, hopen0⟩ | ⟨a, hr'⟩
  · cases hf : T.vm.interned.find? (fun p => p.1 == units) with
    | some pr =>
      obtain ⟨u', a⟩ := pr
      obtain rfl : u' = units := by simpa using Array.find?_some hf
      have hW : s.Warmed39 (ownNoted T g.method.cls index a).vm := X.warmed.wide.notedString hk (Or.inl hopen0) q2 q3 q4 hf
      refine ⟨a, ownNoted T g.method.cls index a, (X.mono (by omega) (by omega)).retabled hW, ⟨hW, State.Booked.step (T₂ := ownNoted T g.method.cls index a) (X.warmed.no_new_pair _) X.same.2.1 ⟨Nat.le_refl _, Or.inl rfl⟩⟩, ⟨_, Vm.classes_note_self index (.string a) hk', Class.resolved_note_self (.string a) hopen⟩, fun _ _ => rfl, (State.Warmed39.refl T).notedString hk' (Or.inl hopen) r2 r3 r4 hf, Or.inl rfl, fun target hrest => ?_⟩
      jvm_step X.here [hexec, hdg, ldc_w.wp_string_found (e := e) (s := T) (f := g) X.here.top hk' hcf' hc hu hopen hf]
      exact hrest
    | none =>
      obtain ⟨Zs, LZs, hn4, hfitv, hfitc⟩ := StringT.of_atoms (args := args) hS
      obtain ⟨kS', kB', LZ', htyS⟩ := LZs.warmer X.warmed.alike
      have hfs : T.fitsSlot = s.fitsSlot := (show T.fitsSlot = (s.setVm T.vm).fitsSlot from rfl).trans (State.fitsSlot_setVm X.warmed.alike)
      have hpush := own_found T units hf
      have hW : s.Warmed39 (ownMadeVm T g.method.cls index units) := (X.warmed.wide.interns units (T.heap.size + 1)).notedString hk (Or.inl hopen0) q2 q3 q4 hpush
      have X2 := (X.pushed (bytesOf Zs.cB units)).pushed (stringAt Zs.cS kS' Zs.fv Zs.fc units T.heap.size)
      rw [← withString_eq] at X2
      have hH := ownMade_heap T Zs.cB Zs.cS kS' Zs.fv Zs.fc g.method.cls index units
      have hsz : (ownMade T Zs.cB Zs.cS kS' Zs.fv Zs.fc g.method.cls index units).heap.size = T.heap.size + 2 := by rw [hH]; simp [Array.size_push]
      have hsz2 : (withString T Zs.cB Zs.cS kS' Zs.fv Zs.fc units).heap.size = T.heap.size + 2 := hsz
      have hone : T.Interned1 (ownMade T Zs.cB Zs.cS kS' Zs.fv Zs.fc g.method.cls index units) :=
        ⟨by show T.heap.size ≤ (withString T Zs.cB Zs.cS kS' Zs.fv Zs.fc units).heap.size; omega, Or.inr ⟨units, T.heap.size + 1, rfl, by omega, by show T.heap.size + 1 < (withString T Zs.cB Zs.cS kS' Zs.fv Zs.fc units).heap.size; omega⟩⟩
      have b1 : (bytesOf Zs.cB units).slots.size = (stringBytes units).size := by
        rw [(Cell.writeAll_facts _ _).2.2]; simp [bytes0]
      have b2 : (stringAt Zs.cS kS' Zs.fv Zs.fc units T.heap.size).slots.size = 4 := by simp [string0, Cell.setSlot, htyS, hn4]
      refine ⟨T.heap.size + 1, ownMade T Zs.cB Zs.cS kS' Zs.fv Zs.fc g.method.cls index units, (X2.mono (by omega) (by rw [b1, b2]; omega)).retabled hW, ⟨hW, State.Booked.step (X.warmed.no_new_pair _) X.same.2.1 hone⟩, ⟨_, Vm.classes_note_self (vm := { T.vm with interned := T.vm.interned.push (units, T.heap.size + 1) }) index (.string (T.heap.size + 1)) hk', Class.resolved_note_self (.string (T.heap.size + 1)) hopen⟩, fun a0 h0 => ?_, ((State.Warmed39.refl T).interns units (T.heap.size + 1)).notedString hk' (Or.inl hopen) r2 r3 r4 hpush, Or.inr ⟨units, rfl, hf, fun hl => made_sl hS LZs hn4 htyS hW.alike ?_ ?_ hl (by omega) 0⟩, fun target hrest => ?_⟩
      · rw [hH, Array.getElem?_push, if_neg (by rw [Array.size_push]; omega), Array.getElem?_push, if_neg (by omega)]
      · rw [hH, Array.getElem?_push, if_neg (by rw [Array.size_push]; omega), Array.getElem?_push, if_pos rfl]
      · rw [hH, Array.getElem?_push, if_pos (by rw [Array.size_push])]
      · refine Steps.instr (c := _) (by simpa using X.here) ?_
        simp [jvm, wpRun, exec, X.here.top, hexec, hdg]
        refine ldc_w.wp_string_new (e := e) (s := T) (f := g) X.here.top hk' hcf' hc hu hopen hf LZ'.found LZ'.cls LZ'.initialized LZ'.ordinary LZ'.foundB LZ'.clsB LZ'.kindB LZ'.value LZ'.coder ?_ ?_ (X.cellsAbove hRcells) ?_
          (stringBytes_fit LZ'.clsB LZ'.kindB units) LZ'.valueSlot LZ'.coderSlot (by rw [hfs]; exact hfitv _) (by rw [hfs]; exact hfitc _) (fun d' acts' => ?_)
        · rw [Launch.admits_arrayLengthLimit X.admits]; omega
        · rw [Launch.admits_maxHeapBytes X.admits]; simp only [componentBytes]; omega
        · have := X.slotsAbove hRslots
          show T.slotsUsed + (stringBytes units).size + kS'.instanceTypes.size ≤ _
          rw [htyS, hn4]; omega
        · intro acts''
          have hs' : (withString T Zs.cB Zs.cS kS' Zs.fv Zs.fc units).topJava?.isSome := by simpa [withString] using X.here.top
          have hs'' : (ownMade T Zs.cB Zs.cS kS' Zs.fv Zs.fc g.method.cls index units).topJava?.isSome := by simpa using hs'
          simp [jvm, afterInstr, hs', hs'']
          rw [State.modifyTopJava_setTop]
          exact hrest
  · refine ⟨a, T, (X.mono (by omega) (by omega)).retabled X.warmed.wide, X.warmed.since _, ⟨k', hk', hr'⟩, fun _ _ => rfl, State.Warmed39.refl T, Or.inl rfl, fun target hrest => ?_⟩
    jvm_step X.here [hexec, hdg, ldc_w.wp_string (e := e) (s := T) (f := g) X.here.top hk' hcf' hc hr']
    exact hrest
/-- an invokevirtual of a private method of an instantiable class (the kit's privateBackS asks the word 'selects', which the sheet does not hold) -/
theorem own_privS (X : Stand p l e R s m args below meth c T locs cells slots) (hexec : p.tables.exec = Jvm.exec) {own : String} {index nn : Nat} {y : MethodName} {bytes : ByteArray} {maxL : Nat} {ret : Option FieldType}
    (hown : s.vm.findClass own = some m.cls) (hlink : (Cond.methodLink own index y).before args s = true) (hinst : (Cond.instanceMethod y).before args s = true) (hmk : (Cond.instantiable y.cls nn).before args s = true)
    (hpriv : s.PrivateAt y) (hcode : (Cond.code y bytes maxL ret).before args s = true) (hy : y.cls ≠ "java/lang/invoke/MethodHandle" ∧ y.cls ≠ "java/lang/invoke/VarHandle")
    {W : Nat} {Pre : Free.Pt → Array Value → Prop} {Post : Free.Pt → Array Value → Option Value → Free.Pt → Prop} (hK : Free.BackS l R p e below s args y 3 W Pre Post) {a : Addr} {cB : ClassId} (hrecv : IsOf cB T a)
    {g : JFrame} (hg : g.method = m) (hsize : g.locals.size = c.maxLocals) {s₀ : State} (hcome : Steps p.tables e below s₀ (T.setTop g))
    {argsL rest : List Value} (hlen : ∀ sig, parseMethodDescriptor y.desc = some sig → argsL.length = sig.parameters.length)
    (hstack : g.stack = argsL.reverse ++ .ref a :: rest) (hW : 2 * g.monitorRoom + (rest.map fun v => v.category).sum ≤ W) (hdg : decode c.code g.pc = .ok (.invokevirtual index, 3))
    (hpre : ∀ vm₁, s.WarmedH vm₁ → Pre ⟨T.setVm vm₁, locs, cells, slots⟩ (.ref a :: argsL).toArray) :
    ∃ (v : Option Value) (vm₁ : Vm) (B : Free.Pt), s.WarmedH vm₁ ∧ Stand p l e R (s.setVm B.U.vm) m args below meth c B.U B.locs B.cells B.slots ∧ s.Since B.U.vm B.U.heap.size ∧ T.heap.size ≤ B.U.heap.size ∧ Post ⟨T.setVm vm₁, locs, cells, slots⟩ (.ref a :: argsL).toArray v B ∧
      Steps p.tables e below s₀ (B.U.setTop { g with pc := g.pc + 3, stack := v.toList ++ rest }) := by
  obtain ⟨cell, hcell, -, hstat⟩ := hrecv
  obtain ⟨mk, methM, hnamed, hmethM, hstM, habM⟩ := Cond.instanceMethod_spec hinst
  obtain ⟨methM', cM, hmethM', -, -, -, -, -, -, hsigM⟩ := Cond.code_spec hnamed hcode
  cases hmethM.symm.trans hmethM'
  obtain ⟨t, kP, g1, hkP, -, g4, -, -⟩ := Cond.instantiable_spec hmk
  cases g1.symm.trans (findClass_of_methodNamed hnamed)
  have hkPi : kP.isInterface = false := by
    cases hi : kP.isInterface with
    | false => rfl
    | true => rw [hi] at g4; exact absurd g4 (by simp)
  obtain ⟨vm₁, X₁, hstep⟩ := X.invokevirtual hexec hown hlink hnamed hmethM hstM hkP hkPi hy (a := a) (cell := cell) hcell (fun q z => by rw [z] at hstat; cases hstat) (selectMethod_private hmethM (hpriv mk methM hnamed hmethM)) hmethM habM hkP hkPi (g := g) hg (argsL := argsL) (rest := rest) (hlen _ hsigM) hstack hdg
  obtain ⟨v, B, X', hS, hgr, hpost, hsteps⟩ := hK m meth c ⟨T.setVm vm₁, locs, cells, slots⟩ { g with stack := rest } (.invokevirtual index) mk (.ref a :: argsL).toArray X₁ hg hsize hdg hW (X₁.named hnamed) (hpre vm₁ X₁.warmed)
  exact ⟨v, vm₁, B, X₁.warmed, X', hS, hgr, hpost, (hcome.trans (hstep _ fun acts => by rw [doInvoke_state]; exact Steps.refl _)).trans hsteps⟩
end OwnLdcW
end Jvm
namespace Jvm.RoadKit
open Sem ClassFile Op Lib Bundle Jvm.Stand Jvm.Free Jvm.LawKit Jvm.Free.SB Jvm.Free.SBG
section OwnLdcW2
variable {p : Program} {l : Launch} {e : Env} {R : Room} {s : State} {m : MethodId} {args : Array Value} {below : List Frame} {meth : Method} {c : Code} {T : State} {locs : List Loc} {cells slots : Nat} {Z : State} {a0 : Array Value} {EL : List (String × Nat)} {h : Heap} {vm0 : Vm} {own text : String} {index : Nat}
/-- the atoms of String at the walk's tables -/
theorem own_atoms (hZ : Z.Warmed39 (s.setVm vm0).vm) (wS : ∀ a ∈ Bundle.stringAtoms, a.before a0 Z = true) : ∀ a ∈ Bundle.stringAtoms, a.before args (s.setVm vm0) = true := fun d hd => by
  have q := wS d hd
  simp only [Bundle.stringAtoms, List.mem_cons, List.not_mem_nil, or_false] at hd
  rcases hd with rfl | rfl | rfl | rfl | rfl | rfl | rfl
  · exact mv (s := s.setVm vm0) hZ q
  · exact mv (s := s.setVm vm0) hZ q
  · exact mvA (s := s.setVm vm0) hZ q
  · exact mv (s := s.setVm vm0) hZ q
  · exact mv (s := s.setVm vm0) hZ q
  · exact mv (s := s.setVm vm0) hZ q
  · exact mv (s := s.setVm vm0) hZ q
theorem own_ldcwOH (X : Stand p l e R (s.setVm vm0) m args below meth c T locs cells slots) (hx : p.tables.exec = Jvm.exec) (hZ : Z.Warmed39 vm0) (hown : vm0.findClass own = some m.cls) (w : (Cond.stringLink own index text).before a0 Z = true) (wS : ∀ a ∈ Bundle.stringAtoms, a.before a0 Z = true)
    (eT : T.heap = h) {k0 : Nat} (hS : s.Since vm0 k0) (hk : k0 ≤ h.size) (hEL : EW Z a0 EL) (H : CHv Z EL vm0 h)
    {g : JFrame} (hg : g.method = m) (hd : decode c.code g.pc = .ok (.ldc_w index, 3)) {n : Nat} (hn : 4 * text.toList.length ≤ n) (hbig : n ≤ 536870912) (hc : cells + 2 ≤ R.cells) (hl' : slots + (n + 4) ≤ R.slots) :
    ∃ (a : Addr) (T' : State) (h' : Heap) (k1 : Nat), Stand p l e R (s.setVm T'.vm) m args below meth c T' locs (cells + 2) (slots + (n + 4)) ∧ T'.heap = h' ∧ Ext h h' ∧ s.Since T'.vm k1 ∧ k1 ≤ h'.size ∧ Z.Warmed39 (s.setVm T'.vm).vm ∧ (s.setVm T'.vm).vm.findClass own = some m.cls ∧ CHr Z EL vm0 h T'.vm h' ∧ Lit (s.setVm T'.vm) own index a ∧
      ∀ target, Steps p.tables e below (T'.setTop { g with pc := g.pc + 3, stack := .ref a :: g.stack }) target → Steps p.tables e below (T.setTop g) target := by
  obtain ⟨a, U, X', hS', ⟨kk, hkk, hrr⟩, hb, hTW, hint, st⟩ := own_ldcwN X hx (own := own) hown (mvS hZ w) (own_atoms (s := s) (vm0 := vm0) hZ wS) hg hd hn hbig hc hl'
  subst eT
  have E := ext_of hb
  have A := CHv.at X hZ hEL H
  have hZT : Z.Warmed39 T.vm := wtrans (s := s.setVm vm0) hZ X.warmed
  have B := CHv.later (vm := T.vm) (vm1 := U.vm) hZT (show (Wst Z T.vm T.heap).Warmed39 U.vm from hTW) hEL E (hint.imp id fun ⟨us, e1, e2, e3⟩ => ⟨us, a, e1, e2, fun hl => by
    obtain ⟨q, cS, hq, r1, r2, r3, r4, r5⟩ := e3 hl
    have F : SlB U q us := ⟨cS, r1, r2, r3, r4⟩
    exact ⟨q, hq, F.carry (V := Wst Z U.vm U.heap) (Vm.Alike.refl _) F.ha F.hd, r5.elim (fun z => absurd z.1 (Nat.not_lt_zero _)) id⟩⟩) A.1
  have hf : U.vm.findClass own = some m.cls := by rw [hS'.1.alike.findClass]; exact hown
  exact ⟨a, U, _, _, X', rfl, E, hS.trans hS' (Nat.le_trans hk E.1), Nat.le_refl _, State.Warmed39.trans (t := s.setVm vm0) hZ hS'.1, hf, A.trans ⟨B.1, E.1, B.2⟩, by simp [Lit, State.resolvedAt?, hf, hkk, hrr], st⟩
/-- what a booked constant of EL says -/
theorem own_litR {vm : Vm} {a : Addr} {cl : ClassId} (hW : Z.Warmed39 vm) (w : (Cond.stringLink own index text).before a0 Z = true) (hf : vm.findClass own = some cl) (hmem : (own, index) ∈ EL) (H : CHv Z EL vm h) (hL : Lit (s.setVm vm) own index a)
    {vs : List Value} {z : Int32} (ht : (∀ c ∈ text.toList, c.toNat < 256) ∧ text.toList.map (fun c => Value.int (Jvm.Lit.byteI c.toNat.toUInt16)) = vs) (hz : ¬ z < 0) (hl : z.toNatClampNeg = vs.length) :
    ∃ (b : Addr) (k : ClassId), Exa Z h a "java/lang/String" ∧ Fld Z h a "java/lang/String" "coder" "B" (.int 0) ∧ Fld Z h a "java/lang/String" "value" "[B" (.ref b) ∧ Arv Z h b k .byte z vs (.int 0) ∧ (∀ x, Safe Z EL vm h x → x ≠ a ∧ x ≠ b) := by
  have hal : Z.vm.Alike vm := hW.alike
  have w2 : (Cond.stringLink own index text).before a0 (Wst Z vm h) = true := mvS (s := { Z with heap := h }) hW w
  obtain ⟨k0', cf, i, units, hkx, hcf, hp, hu, -, htext, -⟩ := Cond.stringLink_spec (s := Wst Z vm h) hf w2
  have hres : k0'.resolved[index]? = some (some (.string a)) := by
    have q : (s.setVm vm).resolvedAt? own index = some (.string a) := hL
    have hk' : vm.classes[cl]? = some k0' := hkx
    simp [State.resolvedAt?, hf, hk'] at q
    cases hr : k0'.resolved[index]? with
    | none => rw [hr] at q; cases q
    | some o => rw [hr] at q; cases o with
      | none => cases q
      | some r => simpa using q
  have hB0 : Booksv vm own index units a := ⟨cl, k0', cf, i, hf, hkx, hcf, hp, hu, Or.inl hres⟩
  have hlat := Jvm.ClassFile.lat_of_text htext ht.1
  obtain ⟨q, hqa, F⟩ := SlB.of (H _ hmem units a hB0)
  have hne : ∀ x, Safe Z EL vm h x → x ≠ q.sa ∧ x ≠ q.sd := fun x S => ⟨fun e1 => S ⟨_, hmem, units, a, hB0, q, hqa, F, Or.inl e1⟩, fun e1 => S ⟨_, hmem, units, a, hB0, q, hqa, F, Or.inr e1⟩⟩
  obtain ⟨cS, ⟨⟨s1, s2, s3, ⟨cv, kv, iv, s4, s4'⟩, ⟨cc, kc, ic, s5, s5'⟩, s6, s7, s8, s9, s10, s11, s12, s13, s14, s15, s16⟩, hfS, hcS⟩, ⟨kS, k1, k2, k3⟩, hB, hbyt⟩ := F
  subst hqa
  have hfS : vm.findClass "java/lang/String" = some cS := hfS
  have hB : vm.findClass "[B" = some q.SA.cls := hB
  have k1 : vm.classes[cS]? = some kS := k1
  obtain ⟨kv', z4⟩ := ff_back (U := Wst Z vm h) hal s4
  obtain ⟨kc', z5⟩ := ff_back (U := Wst Z vm h) hal s5
  have hfZ : Z.vm.findClass "java/lang/String" = some q.sC.cls := by rw [← hal.findClass, hcS]; exact hfS
  obtain ⟨kz, hkz, -⟩ := Vm.findClass_spec hfZ
  obtain ⟨kz', hkz', ekz⟩ := hal.2.2 _ _ hkz
  have ekS : kz' = kS := Option.some.inj (hkz'.symm.trans (hcS ▸ k1))
  have hBZ : Z.vm.findClass "[B" = some q.SA.cls := by rw [← hal.findClass]; exact hB
  obtain ⟨kb, hkb, -⟩ := Vm.findClass_spec hBZ
  obtain ⟨kb', hkb', ekb⟩ := hal.2.2 _ _ hkb
  obtain ⟨hst, k9, hk9, comp, hkind9⟩ := s11
  have hk9 : vm.classes[q.SA.cls]? = some k9 := hk9
  have ek9 : k9 = kb' := Option.some.inj (hk9.symm.trans hkb')
  have hAZ : Z.isArrayOf q.SA .byte := ⟨hst, kb, hkb, comp, by rw [ek9, ekb] at hkind9; exact hkind9⟩
  have eu : vs = units.toList.map fun u => Value.int (Jvm.Lit.byteI u) := by rw [← ht.2, Jvm.ClassFile.units_of_text htext ht.1, List.map_map]; rfl
  have el : vs.length = units.size := by rw [eu]; simp
  have hsl : q.SA.slots = units.map fun u => Value.int (Jvm.Lit.byteI u) := by rw [hbyt, SBG.stringBytes_lat hlat]; rfl
  have hsz : q.SA.slots.size = units.size := by rw [hsl, Array.size_map]
  have H2 : Has q.SA vs (.int 0) := fun j hj => by
    have hj' : j < units.size := by omega
    rw [hsl, eu]; simp [hj']
  refine ⟨q.sd, q.SA.cls, ⟨q.sC, kz, s1, hfZ, hkz, s3, fun ho => by rw [k3, ← ekS, ekz]⟩, ⟨q.sC, cc, kc', ic, q.fSC, s1, z5, s7, s2, s3, by rw [← hal.assignable]; exact s5', s9⟩, ⟨q.sC, cv, kv', iv, q.fSV, s1, z4, s6, s2, s3, by rw [← hal.assignable]; exact s4', s8⟩, ⟨q.SA, ⟨s10, hAZ, s12⟩, rfl, by rw [hsz, hl, el], hz, H2, fun j hj => ?_⟩, hne⟩
  have e1 := s16 j hj
  rw [SBG.getD_of (H2 j hj)] at e1
  exact e1
end OwnLdcW2
end Jvm.RoadKit
namespace Jvm.Pilot.@@N@@
open Jvm Jvm.ClassFile Sem Op Lib Jvm.Free Jvm.Stand Jvm.LawKit Jvm.RoadKit Bundle Jvm.Pilot.@@N@@.Jvm.D
abbrev own_EL : List (String × Nat) := consts_1
theorem own_EW {Z : State} {a0 : Array Value} (hw : ∀ d ∈ tables_1, d.before a0 Z = true) : EW Z a0 own_EL := (EW.cons (hw _ (List.mem_of_getElem? (i := 9) rfl)) (by decide +kernel) (EW.cons (hw _ (List.mem_of_getElem? (i := 129) rfl)) (by decide +kernel) (EW.cons (hw _ (List.mem_of_getElem? (i := 49) rfl)) (by decide +kernel) (EW.cons (hw _ (List.mem_of_getElem? (i := 43) rfl)) (by decide +kernel) (EW.cons (hw _ (List.mem_of_getElem? (i := 55) rfl)) (by decide +kernel) (EW.cons (hw _ (List.mem_of_getElem? (i := 235) rfl)) (by decide +kernel) EW.nil))))))
theorem own_wS {Z : State} {a0 : Array Value} (hw : ∀ d ∈ tables_1, d.before a0 Z = true) : ∀ a ∈ Bundle.stringAtoms, a.before a0 Z = true := fun d hd => hw d ((by decide +kernel : ∀ d ∈ Bundle.stringAtoms, d ∈ tables_1) d hd)

/-- a is an ordinary Latin-1 String whose bytes are bs -/
def OwnStr (Z : State) (h : Heap) (a : Addr) (bs : List Int32) : Prop := ∃ (t : Addr) (k : ClassId), Exa Z h a "java/lang/String" ∧ Fld Z h a "java/lang/String" "coder" "B" (.int 0) ∧ Fld Z h a "java/lang/String" "value" "[B" (.ref t) ∧ Arv Z h t k .byte (Int32.ofNat bs.length) (bs.map Value.int) (.int 0) ∧ bs.length ≤ 4000
theorem OwnStr.ext {Z : State} {h h' : Heap} {a : Addr} {bs : List Int32} (E : Ext h h') (F : OwnStr Z h a bs) : OwnStr Z h' a bs := by
  obtain ⟨t, k, h1, h2, h3, h4, h5⟩ := F
  exact ⟨t, k, h1.ext E, h2.ext E, h3.ext E, h4.ext E, h5⟩
theorem OwnStr.exa {Z : State} {h : Heap} {a : Addr} {bs : List Int32} (F : OwnStr Z h a bs) : Exa Z h a "java/lang/String" := by
  obtain ⟨t, k, h1, h2, h3, h4, h5⟩ := F
  exact h1
theorem own_exaarv {Z : State} {h : Heap} {t w : Addr} {C : String} {k : ClassId} {ty : FieldType} {z : Int32} {vs : List Value} {d : Value} {a0 : Array Value} {n : Nat} (A : Arv Z h t k ty z vs d) (E : Exa Z h w C) (wi : (Cond.instantiable C n).before a0 Z = true) : t ≠ w := Ne.symm (Exa.neArv E A wi)
theorem OwnStr.wrA {Z : State} {h h' : Heap} {a w : Addr} {bs : List Int32} {sl : Nat} {v : Value} {k : ClassId} {ty : FieldType} {z : Int32} {vs : List Value} {d : Value} {a0 : Array Value} {n : Nat} (W : Wr h h' w sl v) (A : Arv Z h w k ty z vs d) (q : ty ≠ .byte) (wi : (Cond.instantiable "java/lang/String" n).before a0 Z = true) (F : OwnStr Z h a bs) : OwnStr Z h' a bs := by
  obtain ⟨t, k', h1, h2, h3, h4, h5⟩ := F
  have n1 : a ≠ w := Exa.neArv h1 A wi
  have n2 : t ≠ w := Ne.symm (own_arv_ne A h4 q)
  exact ⟨t, k', h1.wr W, h2.other W (Or.inl n1), h3.other W (Or.inl n1), h4.other W n2, h5⟩
theorem OwnStr.wrE {Z : State} {h h' : Heap} {a w : Addr} {bs : List Int32} {sl : Nat} {v : Value} {C : String} {a0 : Array Value} {n : Nat} (W : Wr h h' w sl v) (E : Exa Z h w C) (q : C ≠ "java/lang/String") (wi : (Cond.instantiable C n).before a0 Z = true) (F : OwnStr Z h a bs) : OwnStr Z h' a bs := by
  obtain ⟨t, k', h1, h2, h3, h4, h5⟩ := F
  have n1 : a ≠ w := Exa.ne h1 E (Ne.symm q)
  have n2 : t ≠ w := own_exaarv h4 E wi
  exact ⟨t, k', h1.wr W, h2.other W (Or.inl n1), h3.other W (Or.inl n1), h4.other W n2, h5⟩
theorem OwnStr.keepE {Z : State} {h h' : Heap} {a w : Addr} {bs : List Int32} {C : String} {a0 : Array Value} {n : Nat} (K : Keep h h' [w]) (E : Exa Z h w C) (q : C ≠ "java/lang/String") (wi : (Cond.instantiable C n).before a0 Z = true) (F : OwnStr Z h a bs) : OwnStr Z h' a bs := by
  obtain ⟨t, k', h1, h2, h3, h4, h5⟩ := F
  have n1 : a ≠ w := Exa.ne h1 E (Ne.symm q)
  have n2 : t ≠ w := own_exaarv h4 E wi
  exact ⟨t, k', h1.keep K, h2.keep K (ninS n1 nin0), h3.keep K (ninS n1 nin0), h4.keep K (ninS n2 nin0), h5⟩
theorem own_i32 {n : Nat} (h : n < 2 ^ 31) : (Int32.ofNat n).toInt = n := Int32.toInt_ofNat_of_lt h
theorem own_nn {n : Nat} (h : n < 2 ^ 31) : ¬ Int32.ofNat n < 0 := by
  rw [Int32.lt_iff_toInt_lt, own_i32 h]
  have z : (0 : Int32).toInt = 0 := rfl
  omega
theorem own_clamp {n : Nat} (h : n < 2 ^ 31) : (Int32.ofNat n).toNatClampNeg = n := by
  have := nat_of (own_nn h)
  rw [own_i32 h] at this
  omega
theorem own_lti {i n : Nat} (h : n < 2 ^ 31) (hi : i < n) : Int32.ofNat i < Int32.ofNat n := by
  rw [Int32.lt_iff_toInt_lt, own_i32 h, own_i32 (Nat.lt_trans hi h)]
  omega
theorem own_eqi {i n : Nat} (hi : i < 2 ^ 31) (h : n < 2 ^ 31) (e : Int32.ofNat i = Int32.ofNat n) : i = n := by
  have := congrArg Int32.toInt e
  rw [own_i32 h, own_i32 hi] at this
  omega
theorem own_suci (i : Nat) : Int32.ofNat i + (1 : Int32) = Int32.ofNat (i + 1) := (Int32.ofNat_add i 1).symm
theorem own_mapget (bs : List Int32) (i : Nat) (hi : i < 2 ^ 31) : (bs.map Value.int).getD (Int32.ofNat i).toNatClampNeg (.int 0) = .int (bs.getD i 0) := by
  rw [own_clamp hi]
  simp only [List.getD_eq_getElem?_getD, List.getElem?_map]
  cases bs[i]? <;> rfl
theorem own_exteq {bs ds : List Int32} (hl : bs.length = ds.length) (h : ∀ j, j < bs.length → bs.getD j 0 = ds.getD j 0) : bs = ds := by
  apply List.ext_getElem hl
  intro i h1 h2
  have := h i h1
  simpa [List.getD_eq_getElem?_getD, h1, h2] using this

abbrev own_ch (b : Int32) : Int32 := (b &&& (255 : Int32)).toUInt32.toUInt16.toUInt32.toInt32
theorem own_narch (y : Int32) : nar .char (own_ch y) = own_ch y := by
  show ((y &&& (255 : Int32)).toUInt32.toUInt16.toUInt32.toInt32).toUInt32.toUInt16.toUInt32.toInt32 = (y &&& (255 : Int32)).toUInt32.toUInt16.toUInt32.toInt32
  rw [i2c_mask, i2c_mask]
theorem own_shr0 (x : Int32) : x >>> ((0 : Int32) &&& 31) = x := by
  have e : ((0 : Int32) &&& 31) = 0 := by decide
  rw [e]; simp
theorem own_subi {a b : Nat} (h : b ≤ a) : (Int32.ofNat a - Int32.ofNat b : Int32) = Int32.ofNat (a - b) := by
  obtain ⟨d, rfl⟩ := Nat.exists_eq_add_of_le h
  rw [Nat.add_sub_cancel_left, Int32.ofNat_add, Int32.add_comm, Int32.add_sub_cancel]
theorem own_nlti {i n : Nat} (hi : i < 2 ^ 31) (h : n ≤ i) : ¬ Int32.ofNat i < Int32.ofNat n := by
  rw [Int32.lt_iff_toInt_lt, own_i32 hi, own_i32 (Nat.lt_of_le_of_lt h hi)]
  omega
theorem own_i32eq {x y : Int32} (h1 : ¬ x < y) (h2 : ¬ y < x) : x = y := by
  rw [Int32.lt_iff_toInt_lt] at h1 h2
  exact Int32.toInt_inj.mp (by omega)
theorem own_cut (bs : List Int32) (s m : Nat) (hm : m ≤ 4) (h : s + m ≤ bs.length) (hb : bs.length < 2 ^ 31) : ∀ i, (((bs.drop s).take m).map Value.int).getD i (.int 0) = (([.int 0, .int 0, .int 0, .int 0] : List Value).take (0 : Int32).toNatClampNeg ++ ((List.range (Int32.ofNat m).toNatClampNeg).map fun i => (bs.map Value.int).getD ((Int32.ofNat s).toNatClampNeg + i) (.int 0)) ++ ([.int 0, .int 0, .int 0, .int 0] : List Value).drop ((0 : Int32).toNatClampNeg + (Int32.ofNat m).toNatClampNeg)).getD i (.int 0) := by
  intro i
  have z : (0 : Int32).toNatClampNeg = 0 := rfl
  · rw [own_clamp (by omega), own_clamp (by omega), z]
    simp only [List.take_zero, List.nil_append, Nat.zero_add, List.getD_eq_getElem?_getD]
    by_cases hi : i < m
    · rw [List.getElem?_append_left (by simp; omega)]
      simp only [List.getElem?_map, List.getElem?_take_of_lt hi, List.getElem?_drop, List.getElem?_range hi, Option.map_some, Option.getD_some]
    · rw [List.getElem?_append_right (by simp; omega), List.getElem?_eq_none (by simp; omega)]
      simp only [List.length_map, List.length_range]
      match m, hm with
      | 0, _ => match i with
        | 0 => rfl
        | 1 => rfl
        | 2 => rfl
        | 3 => rfl
        | k + 4 => simp
      | 1, _ => match i, hi with
        | 1, _ => rfl
        | 2, _ => rfl
        | 3, _ => rfl
        | k + 4, _ => simp
      | 2, _ => match i, hi with
        | 2, _ => rfl
        | 3, _ => rfl
        | k + 4, _ => simp
      | 3, _ => match i, hi with
        | 3, _ => rfl
        | k + 4, _ => simp
      | 4, _ => simp
theorem own_pop2 {tb : Tables} [Ours tb] {e : Env} {below : List Frame} {T target : State} {m : MethodId} {c : Code} {g : JFrame} (h : At T m c below) (hx : tb.exec = Jvm.exec) (hg : g.method = m) {x : Int64} {rest : List Value} (hd : decode c.code g.pc = .ok (.pop2, 1)) (hs : g.stack = .long x :: rest)
    (hr : Steps tb e below (T.setTop { g with pc := g.pc + 1, stack := rest }) target) : Steps tb e below (T.setTop g) target := by
  subst hg
  jvm_step h [h.top, hx, hd, pop2.wp_sem, hs, Value.category]
  exact hr
theorem own_sub0 {x c : Nat} (hx : x ≤ c) (hc : c < 2 ^ 31) : ¬ (0 : Int32) < Int32.ofNat x - Int32.ofNat c := by
  rw [Int32.lt_iff_toInt_lt, Int32.toInt_sub, own_i32 hc, own_i32 (by omega)]
  have z : (0 : Int32).toInt = 0 := rfl
  rw [z, Int.bmod_eq_of_le (by omega) (by omega)]
  omega
/-- a class that another's selection names is no interface; so the lookup of a method that it declares itself finds that one -/
theorem own_sameM {s : State} {args args' : Array Value} {y y' : MethodName} (w : (Cond.declares y).before args s = true) (nf : NotFace s y') (hc : y'.cls = y.cls) (hn : ∃ r0, s.methodNamed? y' = some r0) (hx : y.cls ≠ "java/lang/invoke/MethodHandle" ∧ y.cls ≠ "java/lang/invoke/VarHandle") : (Cond.sameMethod y.cls y.cls y.name y.desc).before args' s = true := by
  obtain ⟨m, meth, h1, h2, -, -⟩ := Cond.declares_spec w
  have h3 := State.methodFound?_of_named h1 hx
  have h4 := findClass_of_methodNamed h1
  obtain ⟨r0, hr⟩ := hn
  obtain ⟨k, hk, hi⟩ := nf r0 hr
  have h5 := findClass_of_methodNamed hr
  rw [hc] at h5
  have e : r0.cls = m.cls := Option.some.inj (h5.symm.trans h4)
  rw [e] at hk
  have h6 : s.methodNamed? ⟨y.cls, y.name, y.desc⟩ = some m := h1
  simp [Cond.before, Cond.holds, Cond.value, h4, h3, h6, hk, hi]
theorem own_sameZ {Z : State} {a0 : Array Value} {C : String} {y y' : MethodName} (w : (Cond.declares y).before a0 Z = true) (w' : (Cond.declares y').before a0 Z = true) (ws : (Cond.selects C y' y').before a0 Z = true) (hc : y'.cls = y.cls) (hx : y.cls ≠ "java/lang/invoke/MethodHandle" ∧ y.cls ≠ "java/lang/invoke/VarHandle") : (Cond.sameMethod y.cls y.cls y.name y.desc).before a0 Z = true := by
  obtain ⟨m, meth, h1, -⟩ := Cond.declares_spec w'
  exact own_sameM w (notFace_of_selects (args := a0) ws) hc ⟨m, h1⟩ hx
theorem own_shl0 (x : Int32) : x <<< ((0 : Int32) &&& 31) = x := by
  have e : ((0 : Int32) &&& 31) = 0 := by decide
  rw [e]; simp
theorem own_insl (us ds : List Int32) (n : Nat) (h : n + ds.length ≤ us.length) (hb : us.length < 2 ^ 31) : ∀ i, ((us.take n ++ ds ++ us.drop (n + ds.length)).map Value.int).getD i (.int 0) = ((us.map Value.int).take (Int32.ofNat n).toNatClampNeg ++ ((List.range (Int32.ofNat ds.length).toNatClampNeg).map fun i => (ds.map Value.int).getD ((0 : Int32).toNatClampNeg + i) (.int 0)) ++ (us.map Value.int).drop ((Int32.ofNat n).toNatClampNeg + (Int32.ofNat ds.length).toNatClampNeg)).getD i (.int 0) := by
  intro i
  have z : (0 : Int32).toNatClampNeg = 0 := rfl
  rw [own_clamp (by omega), own_clamp (by omega), z]
  have e : ((List.range ds.length).map fun i => (ds.map Value.int).getD (0 + i) (.int 0)) = ds.map Value.int := by
    apply List.ext_getElem (by simp)
    intro j h1 h2
    simp at h1 h2
    simp [List.getD_eq_getElem?_getD, h2]
  rw [e, List.map_append, List.map_append, List.map_take, List.map_drop]
/-- an instance method with code is declared -/
theorem own_decl {s : State} {args : Array Value} {y : MethodName} {bytes : ByteArray} {maxL : Nat} {ret : Option FieldType} (w : (Cond.instanceMethod y).before args s = true) (wc : (Cond.code y bytes maxL ret).before args s = true) : (Cond.declares y).before args s = true := by
  obtain ⟨mk, methM, hnamed, hmethM, hstM, habM⟩ := Cond.instanceMethod_spec w
  obtain ⟨m2, cM, q1, -, -, -, -, -, -, hsig⟩ := Cond.code_spec hnamed wc
  cases hmethM.symm.trans q1
  simp [Cond.before, Cond.holds, Cond.value, hnamed, hmethM, hstM, hsig]
theorem own_nfC {s : State} {args : Array Value} {C : String} {y y' : MethodName} (ws : (Cond.selects C y' y').before args s = true) (w' : (Cond.declares y').before args s = true) (hc : y'.cls = y.cls) : NotFace s y := fun r0 hr => by
  obtain ⟨m, meth, h1, -⟩ := Cond.declares_spec w'
  obtain ⟨k, hk, hi⟩ := notFace_of_selects (args := args) ws m h1
  have h2 := findClass_of_methodNamed h1
  rw [hc] at h2
  have e : m.cls = r0.cls := Option.some.inj (h2.symm.trans (findClass_of_methodNamed hr))
  exact ⟨k, e ▸ hk, hi⟩
theorem leq_d0 : decode jdk_43_method_13_code 0 = .ok (.aload_n 0, 1) := by decide +kernel
theorem leq_d1 : decode jdk_43_method_13_code 1 = .ok (.arraylength, 1) := by decide +kernel
theorem leq_d2 : decode jdk_43_method_13_code 2 = .ok (.aload_n 1, 1) := by decide +kernel
theorem leq_d3 : decode jdk_43_method_13_code 3 = .ok (.arraylength, 1) := by decide +kernel
theorem leq_d4 : decode jdk_43_method_13_code 4 = .ok (.if_icmp .ne 30, 3) := by decide +kernel
theorem leq_d7 : decode jdk_43_method_13_code 7 = .ok (.iconst 0, 1) := by decide +kernel
theorem leq_d8 : decode jdk_43_method_13_code 8 = .ok (.istore_n 2, 1) := by decide +kernel
theorem leq_d9 : decode jdk_43_method_13_code 9 = .ok (.iload_n 2, 1) := by decide +kernel
theorem leq_d10 : decode jdk_43_method_13_code 10 = .ok (.aload_n 0, 1) := by decide +kernel
theorem leq_d11 : decode jdk_43_method_13_code 11 = .ok (.arraylength, 1) := by decide +kernel
theorem leq_d12 : decode jdk_43_method_13_code 12 = .ok (.if_icmp .ge 20, 3) := by decide +kernel
theorem leq_d15 : decode jdk_43_method_13_code 15 = .ok (.aload_n 0, 1) := by decide +kernel
theorem leq_d16 : decode jdk_43_method_13_code 16 = .ok (.iload_n 2, 1) := by decide +kernel
theorem leq_d17 : decode jdk_43_method_13_code 17 = .ok (.baload, 1) := by decide +kernel
theorem leq_d18 : decode jdk_43_method_13_code 18 = .ok (.aload_n 1, 1) := by decide +kernel
theorem leq_d19 : decode jdk_43_method_13_code 19 = .ok (.iload_n 2, 1) := by decide +kernel
theorem leq_d20 : decode jdk_43_method_13_code 20 = .ok (.baload, 1) := by decide +kernel
theorem leq_d21 : decode jdk_43_method_13_code 21 = .ok (.if_icmp .eq 5, 3) := by decide +kernel
theorem leq_d24 : decode jdk_43_method_13_code 24 = .ok (.iconst 0, 1) := by decide +kernel
theorem leq_d25 : decode jdk_43_method_13_code 25 = .ok (.ireturn, 1) := by decide +kernel
theorem leq_d26 : decode jdk_43_method_13_code 26 = .ok (.iinc 2 1, 3) := by decide +kernel
theorem leq_d29 : decode jdk_43_method_13_code 29 = .ok (.goto (-20), 3) := by decide +kernel
theorem leq_d32 : decode jdk_43_method_13_code 32 = .ok (.iconst 1, 1) := by decide +kernel
theorem leq_d33 : decode jdk_43_method_13_code 33 = .ok (.ireturn, 1) := by decide +kernel
theorem leq_d34 : decode jdk_43_method_13_code 34 = .ok (.iconst 0, 1) := by decide +kernel
theorem leq_d35 : decode jdk_43_method_13_code 35 = .ok (.ireturn, 1) := by decide +kernel
theorem leq_pn : plainName "java/lang/StringLatin1" = true := by first | (simp [plainName, overriddenIn]; done) | decide +kernel
theorem leq_ef (m : MethodId) (x0 : Addr) (x1 : Addr) : entryFrame m #[(.ref x0), (.ref x1)] 3 = mkF m 0 #[.val (.ref x0), .val (.ref x1), .unset] [] := by first | (simp [entryFrame, mkF, argsToLocals, Value.category]; done) | rfl
set_option maxRecDepth 65536 in
set_option maxHeartbeats 40000000 in
theorem rm_leq (l : Launch) (Z : State) (a0 : Array Value) (hw : ∀ d ∈ tables_1, d.before a0 Z = true) (ws : List Jvm.Cond) (t1 : Addr) (t2 : Addr) (k1 : ClassId) (k2 : ClassId) (bs : List Int32) (ds : List Int32) (h0 : Heap) (n0 : Nat) (Z0 : n0 ≤ h0.size) (V1 : Arv Z h0 t1 k1 .byte (Int32.ofNat bs.length) (bs.map Value.int) (.int 0)) (V2 : Arv Z h0 t2 k2 .byte (Int32.ofNat ds.length) (ds.map Value.int) (.int 0)) (m1 : bs.length ≤ 4000) (m2 : ds.length ≤ 4000) :
    MetFree l (⟨"java/lang/StringLatin1", "equals", "([B[B)Z"⟩ : MethodName) (head1 (Jvm.Cond.code (⟨"java/lang/StringLatin1", "equals", "([B[B)Z"⟩ : MethodName) jdk_43_method_13_code 3 (some .boolean) :: ws) ({ frames := 0, cells := 0, slots := 0, locals := 0 } : Room)) (fun a U => a = #[(.ref t1), (.ref t2)] ∧ Z.Warmed39 U.vm ∧ U.heap = h0) (fun _ _ _ _ _ => True) (fun _ U o U' => OwnEnd U (fun v h L => v = some (.int (if bs = ds then 1 else 0)) ∧ Fr n0 L ∧ h = h0) ({ frames := 0, cells := 0, slots := 0, locals := 0 } : Room).cells ({ frames := 0, cells := 0, slots := 0, locals := 0 } : Room).slots o U') := by
  refine MetFree.of_bodySF (plainFor_of_name leq_pn) hisR ?_
  intro p e s m args below meth c s₁ Bd hml0 hP hK
  obtain ⟨rfl, hZ, hh⟩ := hP
  have hx := Bd.exec
  have hby := Bd.bytes
  have hml : c.maxLocals = 3 := hml0
  have hown : s.vm.findClass "java/lang/StringLatin1" = some m.cls := findClass_of_methodNamed Bd.named
  have hnm := (name_of_methodNamed Bd.named Bd.method).1
  have X0 : Stand p l e ({ frames := 0, cells := 0, slots := 0, locals := 0 } : Room) s m #[(.ref t1), (.ref t2)] below meth c s₁ [] 0 0 := Stand.of_body Bd
  have e0 : s₁.heap = h0 := by rw [← hh, Bd.state]; rfl
  have N0 := Fr.nil n0
  have KP0 := Keep.refl h0 []
  refine own_go (Q := (OwnEnd s (fun v h L => v = some (.int (if bs = ds then 1 else 0)) ∧ Fr n0 L ∧ h = h0) ({ frames := 0, cells := 0, slots := 0, locals := 0 } : Room).cells ({ frames := 0, cells := 0, slots := 0, locals := 0 } : Room).slots)) ?_
  refine own_back (fun t k => castTop (leq_ef m t1 t2) k) ?_
  show OwnGo p e below (s₁.setTop (mkF m 0 #[.val (.ref t1), .val (.ref t2), .unset] [])) _
  refine own_back (fun t k => XS.aloadN X0.here hx rfl (hb hby leq_d0) rfl rfl k) ?_
  show OwnGo p e below (s₁.setTop (mkF m 1 #[.val (.ref t1), .val (.ref t2), .unset] [(.ref t1)])) _
  obtain ⟨c101, A101, q101, S101, M101, H101, U101⟩ := id V1
  refine own_back (fun t k => X0.arraylength hx (own_hat e0 A101.1) (State.isArrayOf_alike hZ.alike A101.2.1) (g := (mkF m 1 #[.val (.ref t1), .val (.ref t2), .unset] [(.ref t1)])) rfl rfl (hb hby leq_d1) t k) ?_
  rw [len_of S101 M101]
  show OwnGo p e below (s₁.setTop (mkF m 2 #[.val (.ref t1), .val (.ref t2), .unset] [(.int (Int32.ofNat bs.length))])) _
  refine own_back (fun t k => XS.aloadN X0.here hx rfl (hb hby leq_d2) rfl rfl k) ?_
  show OwnGo p e below (s₁.setTop (mkF m 3 #[.val (.ref t1), .val (.ref t2), .unset] [(.ref t2), (.int (Int32.ofNat bs.length))])) _
  obtain ⟨c102, A102, q102, S102, M102, H102, U102⟩ := id V2
  refine own_back (fun t k => X0.arraylength hx (own_hat e0 A102.1) (State.isArrayOf_alike hZ.alike A102.2.1) (g := (mkF m 3 #[.val (.ref t1), .val (.ref t2), .unset] [(.ref t2), (.int (Int32.ofNat bs.length))])) rfl rfl (hb hby leq_d3) t k) ?_
  rw [len_of S102 M102]
  show OwnGo p e below (s₁.setTop (mkF m 4 #[.val (.ref t1), .val (.ref t2), .unset] [(.int (Int32.ofNat ds.length)), (.int (Int32.ofNat bs.length))])) _
  by_cases hc4_103 : (Int32.ofNat bs.length) = (Int32.ofNat ds.length)
  · refine own_back (fun t k => XS.icmpNo X0.here hx rfl (hb hby leq_d4) rfl (Jvm.Free.XT.ii_ne_f hc4_103) k) ?_
    show OwnGo p e below (s₁.setTop (mkF m 7 #[.val (.ref t1), .val (.ref t2), .unset] [])) _
    refine own_back (fun t k => XS.iconst X0.here hx rfl (hb hby leq_d7) k) ?_
    show OwnGo p e below (s₁.setTop (mkF m 8 #[.val (.ref t1), .val (.ref t2), .unset] [(.int (0 : Int32))])) _
    refine own_back (fun t k => XS.istoreN X0.here hx rfl (hb hby leq_d8) rfl (l' := #[.val (.ref t1), .val (.ref t2), .val (.int (0 : Int32))]) rfl k) ?_
    show OwnGo p e below (s₁.setTop (mkF m 9 #[.val (.ref t1), .val (.ref t2), .val (.int (0 : Int32))] [])) _
    have hl104 : bs.length = ds.length := own_eqi (by omega) (by omega) hc4_103
    have loop : ∀ (j i : Nat), i + j = bs.length → (∀ q, q < i → bs.getD q 0 = ds.getD q 0) → OwnGo p e below (s₁.setTop (mkF m 9 #[.val (.ref t1), .val (.ref t2), .val (.int (Int32.ofNat i))] [])) (OwnEnd s (fun v h L => v = some (.int (if bs = ds then 1 else 0)) ∧ Fr n0 L ∧ h = h0) ({ frames := 0, cells := 0, slots := 0, locals := 0 } : Room).cells ({ frames := 0, cells := 0, slots := 0, locals := 0 } : Room).slots) := by
      intro j
      induction j with
      | zero =>
        intro i hi hs
        show OwnGo p e below (s₁.setTop (mkF m 9 #[.val (.ref t1), .val (.ref t2), .val (.int (Int32.ofNat i))] [])) _
        refine own_back (fun t k => XS.iloadN X0.here hx rfl (hb hby leq_d9) rfl k) ?_
        show OwnGo p e below (s₁.setTop (mkF m 10 #[.val (.ref t1), .val (.ref t2), .val (.int (Int32.ofNat i))] [(.int (Int32.ofNat i))])) _
        refine own_back (fun t k => XS.aloadN X0.here hx rfl (hb hby leq_d10) rfl rfl k) ?_
        show OwnGo p e below (s₁.setTop (mkF m 11 #[.val (.ref t1), .val (.ref t2), .val (.int (Int32.ofNat i))] [(.ref t1), (.int (Int32.ofNat i))])) _
        obtain ⟨c105, A105, q105, S105, M105, H105, U105⟩ := id V1
        refine own_back (fun t k => X0.arraylength hx (own_hat e0 A105.1) (State.isArrayOf_alike hZ.alike A105.2.1) (g := (mkF m 11 #[.val (.ref t1), .val (.ref t2), .val (.int (Int32.ofNat i))] [(.ref t1), (.int (Int32.ofNat i))])) rfl rfl (hb hby leq_d11) t k) ?_
        rw [len_of S105 M105]
        show OwnGo p e below (s₁.setTop (mkF m 12 #[.val (.ref t1), .val (.ref t2), .val (.int (Int32.ofNat i))] [(.int (Int32.ofNat bs.length)), (.int (Int32.ofNat i))])) _
        refine own_back (fun t k => XS.icmpYes X0.here hx rfl (pc0 := 12) (pc' := 32) rfl (hb hby leq_d12) rfl (Jvm.Free.XT.ii_ge_t (by rw [show i = bs.length by omega]; exact Int32.lt_irrefl)) (by decide) (by decide) k) ?_
        show OwnGo p e below (s₁.setTop (mkF m 32 #[.val (.ref t1), .val (.ref t2), .val (.int (Int32.ofNat i))] [])) _
        refine own_back (fun t k => XS.iconst X0.here hx rfl (hb hby leq_d32) k) ?_
        show OwnGo p e below (s₁.setTop (mkF m 33 #[.val (.ref t1), .val (.ref t2), .val (.int (Int32.ofNat i))] [(.int (1 : Int32))])) _
        refine own_retN X0 hx Bd.notSynchronized (t := .boolean) (z := (1 : Int32)) Bd.returns (by simp) rfl (hb hby leq_d33) e0 (Nat.le_of_ble_eq_true rfl) (Nat.le_of_ble_eq_true rfl) ?_
        exact ⟨by rw [if_pos (own_exteq hl104 (fun q hq => hs q (by omega)))], N0, rfl⟩
      | succ j ih =>
        intro i hi hs
        show OwnGo p e below (s₁.setTop (mkF m 9 #[.val (.ref t1), .val (.ref t2), .val (.int (Int32.ofNat i))] [])) _
        refine own_back (fun t k => XS.iloadN X0.here hx rfl (hb hby leq_d9) rfl k) ?_
        show OwnGo p e below (s₁.setTop (mkF m 10 #[.val (.ref t1), .val (.ref t2), .val (.int (Int32.ofNat i))] [(.int (Int32.ofNat i))])) _
        refine own_back (fun t k => XS.aloadN X0.here hx rfl (hb hby leq_d10) rfl rfl k) ?_
        show OwnGo p e below (s₁.setTop (mkF m 11 #[.val (.ref t1), .val (.ref t2), .val (.int (Int32.ofNat i))] [(.ref t1), (.int (Int32.ofNat i))])) _
        obtain ⟨c106, A106, q106, S106, M106, H106, U106⟩ := id V1
        refine own_back (fun t k => X0.arraylength hx (own_hat e0 A106.1) (State.isArrayOf_alike hZ.alike A106.2.1) (g := (mkF m 11 #[.val (.ref t1), .val (.ref t2), .val (.int (Int32.ofNat i))] [(.ref t1), (.int (Int32.ofNat i))])) rfl rfl (hb hby leq_d11) t k) ?_
        rw [len_of S106 M106]
        show OwnGo p e below (s₁.setTop (mkF m 12 #[.val (.ref t1), .val (.ref t2), .val (.int (Int32.ofNat i))] [(.int (Int32.ofNat bs.length)), (.int (Int32.ofNat i))])) _
        refine own_back (fun t k => XS.icmpNo X0.here hx rfl (hb hby leq_d12) rfl (Jvm.Free.XT.ii_ge_f (own_lti (by omega) (by omega))) k) ?_
        show OwnGo p e below (s₁.setTop (mkF m 15 #[.val (.ref t1), .val (.ref t2), .val (.int (Int32.ofNat i))] [])) _
        refine own_back (fun t k => XS.aloadN X0.here hx rfl (hb hby leq_d15) rfl rfl k) ?_
        show OwnGo p e below (s₁.setTop (mkF m 16 #[.val (.ref t1), .val (.ref t2), .val (.int (Int32.ofNat i))] [(.ref t1)])) _
        refine own_back (fun t k => XS.iloadN X0.here hx rfl (hb hby leq_d16) rfl k) ?_
        show OwnGo p e below (s₁.setTop (mkF m 17 #[.val (.ref t1), .val (.ref t2), .val (.int (Int32.ofNat i))] [(.int (Int32.ofNat i)), (.ref t1)])) _
        obtain ⟨c107, A107, q107, S107, M107, H107, U107⟩ := id V1
        have ib108 : ¬ ((Int32.ofNat i) < 0 ∨ c107.slots.size ≤ ((Int32.ofNat i)).toNatClampNeg) := (inb_of S107 ⟨own_nn (by omega), own_lti (by omega) (by omega)⟩)
        refine own_back (fun t k => X0.baloadBytes hx (j := (Int32.ofNat i)) (v := (.int (bs.getD i 0))) (own_hat e0 A107.1) (State.isArrayOf_alike hZ.alike A107.2.1) A107.2.2 ib108 (H107.at ib108 (own_mapget bs i (by omega))) (g := (mkF m 17 #[.val (.ref t1), .val (.ref t2), .val (.int (Int32.ofNat i))] [(.int (Int32.ofNat i)), (.ref t1)])) rfl rfl (hb hby leq_d17) t k) ?_
        show OwnGo p e below (s₁.setTop (mkF m 18 #[.val (.ref t1), .val (.ref t2), .val (.int (Int32.ofNat i))] [(.int (bs.getD i 0))])) _
        refine own_back (fun t k => XS.aloadN X0.here hx rfl (hb hby leq_d18) rfl rfl k) ?_
        show OwnGo p e below (s₁.setTop (mkF m 19 #[.val (.ref t1), .val (.ref t2), .val (.int (Int32.ofNat i))] [(.ref t2), (.int (bs.getD i 0))])) _
        refine own_back (fun t k => XS.iloadN X0.here hx rfl (hb hby leq_d19) rfl k) ?_
        show OwnGo p e below (s₁.setTop (mkF m 20 #[.val (.ref t1), .val (.ref t2), .val (.int (Int32.ofNat i))] [(.int (Int32.ofNat i)), (.ref t2), (.int (bs.getD i 0))])) _
        obtain ⟨c109, A109, q109, S109, M109, H109, U109⟩ := id V2
        have ib110 : ¬ ((Int32.ofNat i) < 0 ∨ c109.slots.size ≤ ((Int32.ofNat i)).toNatClampNeg) := (inb_of S109 ⟨own_nn (by omega), own_lti (by omega) (by omega)⟩)
        refine own_back (fun t k => X0.baloadBytes hx (j := (Int32.ofNat i)) (v := (.int (ds.getD i 0))) (own_hat e0 A109.1) (State.isArrayOf_alike hZ.alike A109.2.1) A109.2.2 ib110 (H109.at ib110 (own_mapget ds i (by omega))) (g := (mkF m 20 #[.val (.ref t1), .val (.ref t2), .val (.int (Int32.ofNat i))] [(.int (Int32.ofNat i)), (.ref t2), (.int (bs.getD i 0))])) rfl rfl (hb hby leq_d20) t k) ?_
        show OwnGo p e below (s₁.setTop (mkF m 21 #[.val (.ref t1), .val (.ref t2), .val (.int (Int32.ofNat i))] [(.int (ds.getD i 0)), (.int (bs.getD i 0))])) _
        by_cases hc21_111 : (bs.getD i 0) = (ds.getD i 0)
        · refine own_back (fun t k => XS.icmpYes X0.here hx rfl (pc0 := 21) (pc' := 26) rfl (hb hby leq_d21) rfl (Jvm.Free.XT.ii_eq_t hc21_111) (by decide) (by decide) k) ?_
          show OwnGo p e below (s₁.setTop (mkF m 26 #[.val (.ref t1), .val (.ref t2), .val (.int (Int32.ofNat i))] [])) _
          refine own_back (fun t k => XS.iinc X0.here hx rfl (hb hby leq_d26) rfl (l' := #[.val (.ref t1), .val (.ref t2), .val (.int ((Int32.ofNat i) + (1 : Int32)))]) rfl k) ?_
          show OwnGo p e below (s₁.setTop (mkF m 29 #[.val (.ref t1), .val (.ref t2), .val (.int ((Int32.ofNat i) + (1 : Int32)))] [])) _
          refine own_back (fun t k => XS.goto X0.here hx rfl (pc0 := 29) (pc' := 9) rfl (hb hby leq_d29) (by decide) (by decide) k) ?_
          show OwnGo p e below (s₁.setTop (mkF m 9 #[.val (.ref t1), .val (.ref t2), .val (.int ((Int32.ofNat i) + (1 : Int32)))] [])) _
          rw [own_suci]
          refine ih (i + 1) (by omega) (fun q hq => ?_)
          rcases Nat.lt_succ_iff_lt_or_eq.mp hq with h | h
          · exact hs q h
          · rw [h]; exact hc21_111
        · refine own_back (fun t k => XS.icmpNo X0.here hx rfl (hb hby leq_d21) rfl (Jvm.Free.XT.ii_eq_f hc21_111) k) ?_
          show OwnGo p e below (s₁.setTop (mkF m 24 #[.val (.ref t1), .val (.ref t2), .val (.int (Int32.ofNat i))] [])) _
          refine own_back (fun t k => XS.iconst X0.here hx rfl (hb hby leq_d24) k) ?_
          show OwnGo p e below (s₁.setTop (mkF m 25 #[.val (.ref t1), .val (.ref t2), .val (.int (Int32.ofNat i))] [(.int (0 : Int32))])) _
          refine own_retN X0 hx Bd.notSynchronized (t := .boolean) (z := (0 : Int32)) Bd.returns (by simp) rfl (hb hby leq_d25) e0 (Nat.le_of_ble_eq_true rfl) (Nat.le_of_ble_eq_true rfl) ?_
          exact ⟨by rw [if_neg (fun q => hc21_111 (by rw [q]))], N0, rfl⟩
    exact loop bs.length 0 (by omega) (fun q hq => absurd hq (Nat.not_lt_zero _))
  · refine own_back (fun t k => XS.icmpYes X0.here hx rfl (pc0 := 4) (pc' := 34) rfl (hb hby leq_d4) rfl (Jvm.Free.XT.ii_ne_t hc4_103) (by decide) (by decide) k) ?_
    show OwnGo p e below (s₁.setTop (mkF m 34 #[.val (.ref t1), .val (.ref t2), .unset] [])) _
    refine own_back (fun t k => XS.iconst X0.here hx rfl (hb hby leq_d34) k) ?_
    show OwnGo p e below (s₁.setTop (mkF m 35 #[.val (.ref t1), .val (.ref t2), .unset] [(.int (0 : Int32))])) _
    refine own_retN X0 hx Bd.notSynchronized (t := .boolean) (z := (0 : Int32)) Bd.returns (by simp) rfl (hb hby leq_d35) e0 (Nat.le_of_ble_eq_true rfl) (Nat.le_of_ble_eq_true rfl) ?_
    exact ⟨by rw [if_neg (fun q => hc4_103 (by rw [q]))], N0, rfl⟩
theorem own_ite0 {P : Prop} [Decidable P] (h : (if P then (1 : Int32) else 0) = 0) : (if P then (1 : Int32) else 0) = 0 := h
theorem own_ite1 {P : Prop} [Decidable P] (h : ¬ (if P then (1 : Int32) else 0) = 0) : (if P then (1 : Int32) else 0) = 1 := by
  by_cases q : P
  · exact if_pos q
  · exact absurd (if_neg q) h
theorem own_arvget {Z : State} {h : Heap} {t : Addr} {k k' : ClassId} {ty ty' : FieldType} {z z' : Int32} {vs vs' : List Value} {d d' : Value} (A : Arv Z h t k ty z vs d) (B : Arv Z h t k' ty' z' vs' d') : z.toNatClampNeg = z'.toNatClampNeg ∧ ∀ i, i < z.toNatClampNeg → vs.getD i d = vs'.getD i d' := by
  obtain ⟨c, A1, -, A3, -, A5, -⟩ := A
  obtain ⟨c', B1, -, B3, -, B5, -⟩ := B
  cases A1.1.symm.trans B1.1
  refine ⟨A3.symm.trans B3, fun i hi => ?_⟩
  have q1 := A5 i (by omega)
  have q2 := B5 i (by omega)
  exact Option.some.inj (q1.symm.trans q2)
theorem own_sameb {Z : State} {h : Heap} {a : Addr} {bs ds : List Int32} (F : OwnStr Z h a bs) (G : OwnStr Z h a ds) : bs = ds := by
  obtain ⟨t, k, h1, h2, h3, h4, h5⟩ := F
  obtain ⟨t', k', g1, g2, g3, g4, g5⟩ := G
  have e : t = t' := Decidable.byContradiction fun q => Fld.ne h3 g3 (fun z => q (Value.ref.inj z)) rfl
  subst e
  obtain ⟨q1, q2⟩ := own_arvget h4 g4
  rw [own_clamp (by omega), own_clamp (by omega)] at q1
  rw [own_clamp (by omega)] at q2
  refine own_exteq q1 fun j hj => ?_
  have := q2 j hj
  have e1 := own_mapget bs j (by omega)
  have e2 := own_mapget ds j (by omega)
  rw [own_clamp (by omega)] at e1 e2
  rw [e1, e2] at this
  exact Value.int.inj this
theorem seq_d0 : decode jdk_42_method_66_code 0 = .ok (.aload_n 0, 1) := by decide +kernel
theorem seq_d1 : decode jdk_42_method_66_code 1 = .ok (.aload_n 1, 1) := by decide +kernel
theorem seq_d2 : decode jdk_42_method_66_code 2 = .ok (.if_acmp .ne 5, 3) := by decide +kernel
theorem seq_d5 : decode jdk_42_method_66_code 5 = .ok (.iconst 1, 1) := by decide +kernel
theorem seq_d6 : decode jdk_42_method_66_code 6 = .ok (.ireturn, 1) := by decide +kernel
theorem seq_d7 : decode jdk_42_method_66_code 7 = .ok (.aload_n 1, 1) := by decide +kernel
theorem seq_d8 : decode jdk_42_method_66_code 8 = .ok (.instanceof 10, 3) := by decide +kernel
theorem seq_d11 : decode jdk_42_method_66_code 11 = .ok (.ifCond .eq 43, 3) := by decide +kernel
theorem seq_d14 : decode jdk_42_method_66_code 14 = .ok (.aload_n 1, 1) := by decide +kernel
theorem seq_d15 : decode jdk_42_method_66_code 15 = .ok (.checkcast 10, 3) := by decide +kernel
theorem seq_d18 : decode jdk_42_method_66_code 18 = .ok (.astore_n 2, 1) := by decide +kernel
theorem seq_d19 : decode jdk_42_method_66_code 19 = .ok (.getstatic 38, 3) := by decide +kernel
theorem seq_d22 : decode jdk_42_method_66_code 22 = .ok (.ifCond .eq 14, 3) := by decide +kernel
theorem seq_d25 : decode jdk_42_method_66_code 25 = .ok (.aload_n 0, 1) := by decide +kernel
theorem seq_d26 : decode jdk_42_method_66_code 26 = .ok (.getfield 15, 3) := by decide +kernel
theorem seq_d29 : decode jdk_42_method_66_code 29 = .ok (.aload_n 2, 1) := by decide +kernel
theorem seq_d30 : decode jdk_42_method_66_code 30 = .ok (.getfield 15, 3) := by decide +kernel
theorem seq_d33 : decode jdk_42_method_66_code 33 = .ok (.if_icmp .ne 21, 3) := by decide +kernel
theorem seq_d36 : decode jdk_42_method_66_code 36 = .ok (.aload_n 0, 1) := by decide +kernel
theorem seq_d37 : decode jdk_42_method_66_code 37 = .ok (.getfield 9, 3) := by decide +kernel
theorem seq_d40 : decode jdk_42_method_66_code 40 = .ok (.aload_n 2, 1) := by decide +kernel
theorem seq_d41 : decode jdk_42_method_66_code 41 = .ok (.getfield 9, 3) := by decide +kernel
theorem seq_d44 : decode jdk_42_method_66_code 44 = .ok (.invokestatic 541, 3) := by decide +kernel
theorem seq_d47 : decode jdk_42_method_66_code 47 = .ok (.ifCond .eq 7, 3) := by decide +kernel
theorem seq_d50 : decode jdk_42_method_66_code 50 = .ok (.iconst 1, 1) := by decide +kernel
theorem seq_d51 : decode jdk_42_method_66_code 51 = .ok (.goto 4, 3) := by decide +kernel
theorem seq_d54 : decode jdk_42_method_66_code 54 = .ok (.iconst 0, 1) := by decide +kernel
theorem seq_d55 : decode jdk_42_method_66_code 55 = .ok (.ireturn, 1) := by decide +kernel
theorem seq_pn : plainName "java/lang/String" = true := by first | (simp [plainName, overriddenIn]; done) | decide +kernel
theorem seq_pd0 : parseMethodDescriptor "([B[B)Z" = some ⟨[(.array .byte), (.array .byte)], some .boolean⟩ := by decide +kernel
theorem seq_ef (m : MethodId) (x0 : Addr) (x1 : Addr) : entryFrame m #[(.ref x0), (.ref x1)] 3 = mkF m 0 #[.val (.ref x0), .val (.ref x1), .unset] [] := by first | (simp [entryFrame, mkF, argsToLocals, Value.category]; done) | rfl
set_option maxRecDepth 65536 in
set_option maxHeartbeats 40000000 in
theorem rm_seq (l : Launch) (Z : State) (a0 : Array Value) (hw : ∀ d ∈ tables_1, d.before a0 Z = true) (ws : List Jvm.Cond) (a1 : Addr) (a2 : Addr) (bs : List Int32) (ds : List Int32) (cz : Int32) (h0 : Heap) (n0 : Nat) (Z0 : n0 ≤ h0.size) (OL : Old Z n0 h0) (B1 : OwnStr Z h0 a1 bs) (B2 : OwnStr Z h0 a2 ds) (SC : Sta Z Z.heap "java/lang/String" "COMPACT_STRINGS" "Z" (.int cz)) (hcz : ¬ cz = 0) :
    MetFree l (⟨"java/lang/String", "equals", "(Ljava/lang/Object;)Z"⟩ : MethodName) (head1 (Jvm.Cond.code (⟨"java/lang/String", "equals", "(Ljava/lang/Object;)Z"⟩ : MethodName) jdk_42_method_66_code 3 (some .boolean) :: ws) ({ frames := 1, cells := 0, slots := 0, locals := 20 } : Room)) (fun a U => a = #[(.ref a1), (.ref a2)] ∧ Z.Warmed39 U.vm ∧ U.heap = h0) (fun _ _ _ _ _ => True) (fun _ U o U' => OwnEnd U (fun v h L => v = some (.int (if bs = ds then 1 else 0)) ∧ Fr n0 L ∧ h = h0) ({ frames := 1, cells := 0, slots := 0, locals := 20 } : Room).cells ({ frames := 1, cells := 0, slots := 0, locals := 20 } : Room).slots o U') := by
  refine MetFree.of_bodySF (plainFor_of_name seq_pn) hisR ?_
  intro p e s m args below meth c s₁ Bd hml0 hP hK
  obtain ⟨rfl, hZ, hh⟩ := hP
  have hx := Bd.exec
  have hby := Bd.bytes
  have hml : c.maxLocals = 3 := hml0
  have hown : s.vm.findClass "java/lang/String" = some m.cls := findClass_of_methodNamed Bd.named
  have hnm := (name_of_methodNamed Bd.named Bd.method).1
  have X0 : Stand p l e ({ frames := 1, cells := 0, slots := 0, locals := 20 } : Room) s m #[(.ref a1), (.ref a2)] below meth c s₁ [] 0 0 := Stand.of_body Bd
  have e0 : s₁.heap = h0 := by rw [← hh, Bd.state]; rfl
  have N0 := Fr.nil n0
  have KP0 := Keep.refl h0 []
  refine own_go (Q := (OwnEnd s (fun v h L => v = some (.int (if bs = ds then 1 else 0)) ∧ Fr n0 L ∧ h = h0) ({ frames := 1, cells := 0, slots := 0, locals := 20 } : Room).cells ({ frames := 1, cells := 0, slots := 0, locals := 20 } : Room).slots)) ?_
  refine own_back (fun t k => castTop (seq_ef m a1 a2) k) ?_
  show OwnGo p e below (s₁.setTop (mkF m 0 #[.val (.ref a1), .val (.ref a2), .unset] [])) _
  obtain ⟨t1, k1, E1, C1, F1, V1, m1⟩ := B1
  obtain ⟨t2, k2, E2, C2, F2, V2, m2⟩ := B2
  refine own_back (fun t k => XS.aloadN X0.here hx rfl (hb hby seq_d0) rfl rfl k) ?_
  show OwnGo p e below (s₁.setTop (mkF m 1 #[.val (.ref a1), .val (.ref a2), .unset] [(.ref a1)])) _
  refine own_back (fun t k => XS.aloadN X0.here hx rfl (hb hby seq_d1) rfl rfl k) ?_
  show OwnGo p e below (s₁.setTop (mkF m 2 #[.val (.ref a1), .val (.ref a2), .unset] [(.ref a2), (.ref a1)])) _
  by_cases ha2_112 : a1 = a2
  · refine own_back (fun t k => Jvm.RoadKit.acmp (g := (mkF m 2 #[.val (.ref a1), .val (.ref a2), .unset] [(.ref a2), (.ref a1)])) X0 hx rfl rfl rfl (pc0 := 2) (pc' := 5) (same := true) rfl (hb hby seq_d2) rfl (decide_eq_true (congrArg Value.ref ha2_112)) (by decide) (by decide) k) ?_
    show OwnGo p e below (s₁.setTop (mkF m 5 #[.val (.ref a1), .val (.ref a2), .unset] [])) _
    refine own_back (fun t k => XS.iconst X0.here hx rfl (hb hby seq_d5) k) ?_
    show OwnGo p e below (s₁.setTop (mkF m 6 #[.val (.ref a1), .val (.ref a2), .unset] [(.int (1 : Int32))])) _
    refine own_retN X0 hx Bd.notSynchronized (t := .boolean) (z := (1 : Int32)) Bd.returns (by simp) rfl (hb hby seq_d6) e0 (Nat.le_of_ble_eq_true rfl) (Nat.le_of_ble_eq_true rfl) ?_
    exact ⟨by rw [if_pos (own_sameb (by exact ⟨_, _, E1, C1, F1, V1, m1⟩) (by rw [ha2_112]; exact ⟨_, _, E2, C2, F2, V2, m2⟩))], N0, rfl⟩
  · refine own_back (fun t k => Jvm.RoadKit.acmp (g := (mkF m 2 #[.val (.ref a1), .val (.ref a2), .unset] [(.ref a2), (.ref a1)])) X0 hx rfl rfl rfl (pc0 := 2) (pc' := 7) (same := false) rfl (hb hby seq_d2) rfl (decide_eq_false fun q => ha2_112 (Value.ref.inj q)) (by decide) (by decide) k) ?_
    show OwnGo p e below (s₁.setTop (mkF m 7 #[.val (.ref a1), .val (.ref a2), .unset] [])) _
    refine own_back (fun t k => XS.aloadN X0.here hx rfl (hb hby seq_d7) rfl rfl k) ?_
    show OwnGo p e below (s₁.setTop (mkF m 8 #[.val (.ref a1), .val (.ref a2), .unset] [(.ref a2)])) _
    obtain ⟨T113, X113, e113, st113⟩ := instY X0 hx hZ hown (hw _ (List.mem_of_getElem? (i := 289) rfl)) e0 (Ins.self E2) (g := (mkF m 8 #[.val (.ref a1), .val (.ref a2), .unset] [(.ref a2)])) rfl rfl (hb hby seq_d8)
    refine own_back st113 ?_
    show OwnGo p e below (T113.setTop (mkF m 11 #[.val (.ref a1), .val (.ref a2), .unset] [(.int (1 : Int32))])) _
    refine own_back (fun t k => XS.ifNo X113.here hx rfl (hb hby seq_d11) rfl (Jvm.Free.XT.i0_eq_f (by decide)) k) ?_
    show OwnGo p e below (T113.setTop (mkF m 14 #[.val (.ref a1), .val (.ref a2), .unset] [])) _
    refine own_back (fun t k => XS.aloadN X113.here hx rfl (hb hby seq_d14) rfl rfl k) ?_
    show OwnGo p e below (T113.setTop (mkF m 15 #[.val (.ref a1), .val (.ref a2), .unset] [(.ref a2)])) _
    obtain ⟨T114, X114, e114, st114⟩ := castY X113 hx hZ hown (hw _ (List.mem_of_getElem? (i := 289) rfl)) e113 (Ins.self E2) (g := (mkF m 15 #[.val (.ref a1), .val (.ref a2), .unset] [(.ref a2)])) rfl rfl (hb hby seq_d15)
    refine own_back st114 ?_
    show OwnGo p e below (T114.setTop (mkF m 18 #[.val (.ref a1), .val (.ref a2), .unset] [(.ref a2)])) _
    refine own_back (fun t k => XS.astoreN X114.here hx rfl (hb hby seq_d18) rfl rfl (l' := #[.val (.ref a1), .val (.ref a2), .val (.ref a2)]) rfl k) ?_
    show OwnGo p e below (T114.setTop (mkF m 19 #[.val (.ref a1), .val (.ref a2), .val (.ref a2)] [])) _
    obtain ⟨T115, X115, e115, st115⟩ := getS2 X114 hx hZ hown (host := "") (Or.inl (hw _ (List.mem_of_getElem? (i := 100) rfl))) Via.refl e114 (SC.ext OL.2) (g := (mkF m 19 #[.val (.ref a1), .val (.ref a2), .val (.ref a2)] [])) rfl (hb hby seq_d19)
    refine own_back st115 ?_
    show OwnGo p e below (T115.setTop (mkF m 22 #[.val (.ref a1), .val (.ref a2), .val (.ref a2)] [(.int cz)])) _
    refine own_back (fun t k => XS.ifNo X115.here hx rfl (hb hby seq_d22) rfl (Jvm.Free.XT.i0_eq_f hcz) k) ?_
    show OwnGo p e below (T115.setTop (mkF m 25 #[.val (.ref a1), .val (.ref a2), .val (.ref a2)] [])) _
    refine own_back (fun t k => XS.aloadN X115.here hx rfl (hb hby seq_d25) rfl rfl k) ?_
    show OwnGo p e below (T115.setTop (mkF m 26 #[.val (.ref a1), .val (.ref a2), .val (.ref a2)] [(.ref a1)])) _
    obtain ⟨T116, X116, e116, st116⟩ := getF X115 hx hZ hown (host := "") (Or.inl (hw _ (List.mem_of_getElem? (i := 101) rfl))) Via.refl e115 C1 (g := (mkF m 26 #[.val (.ref a1), .val (.ref a2), .val (.ref a2)] [(.ref a1)])) rfl rfl (hb hby seq_d26)
    refine own_back st116 ?_
    show OwnGo p e below (T116.setTop (mkF m 29 #[.val (.ref a1), .val (.ref a2), .val (.ref a2)] [(.int (0 : Int32))])) _
    refine own_back (fun t k => XS.aloadN X116.here hx rfl (hb hby seq_d29) rfl rfl k) ?_
    show OwnGo p e below (T116.setTop (mkF m 30 #[.val (.ref a1), .val (.ref a2), .val (.ref a2)] [(.ref a2), (.int (0 : Int32))])) _
    obtain ⟨T117, X117, e117, st117⟩ := getF X116 hx hZ hown (host := "") (Or.inl (hw _ (List.mem_of_getElem? (i := 101) rfl))) Via.refl e116 C2 (g := (mkF m 30 #[.val (.ref a1), .val (.ref a2), .val (.ref a2)] [(.ref a2), (.int (0 : Int32))])) rfl rfl (hb hby seq_d30)
    refine own_back st117 ?_
    show OwnGo p e below (T117.setTop (mkF m 33 #[.val (.ref a1), .val (.ref a2), .val (.ref a2)] [(.int (0 : Int32)), (.int (0 : Int32))])) _
    refine own_back (fun t k => XS.icmpNo X117.here hx rfl (hb hby seq_d33) rfl (Jvm.Free.XT.ii_ne_f (by decide)) k) ?_
    show OwnGo p e below (T117.setTop (mkF m 36 #[.val (.ref a1), .val (.ref a2), .val (.ref a2)] [])) _
    refine own_back (fun t k => XS.aloadN X117.here hx rfl (hb hby seq_d36) rfl rfl k) ?_
    show OwnGo p e below (T117.setTop (mkF m 37 #[.val (.ref a1), .val (.ref a2), .val (.ref a2)] [(.ref a1)])) _
    obtain ⟨T118, X118, e118, st118⟩ := getF X117 hx hZ hown (host := "") (Or.inl (hw _ (List.mem_of_getElem? (i := 94) rfl))) Via.refl e117 F1 (g := (mkF m 37 #[.val (.ref a1), .val (.ref a2), .val (.ref a2)] [(.ref a1)])) rfl rfl (hb hby seq_d37)
    refine own_back st118 ?_
    show OwnGo p e below (T118.setTop (mkF m 40 #[.val (.ref a1), .val (.ref a2), .val (.ref a2)] [(.ref t1)])) _
    refine own_back (fun t k => XS.aloadN X118.here hx rfl (hb hby seq_d40) rfl rfl k) ?_
    show OwnGo p e below (T118.setTop (mkF m 41 #[.val (.ref a1), .val (.ref a2), .val (.ref a2)] [(.ref a2), (.ref t1)])) _
    obtain ⟨T119, X119, e119, st119⟩ := getF X118 hx hZ hown (host := "") (Or.inl (hw _ (List.mem_of_getElem? (i := 94) rfl))) Via.refl e118 F2 (g := (mkF m 41 #[.val (.ref a1), .val (.ref a2), .val (.ref a2)] [(.ref a2), (.ref t1)])) rfl rfl (hb hby seq_d41)
    refine own_back st119 ?_
    show OwnGo p e below (T119.setTop (mkF m 44 #[.val (.ref a1), .val (.ref a2), .val (.ref a2)] [(.ref t2), (.ref t1)])) _
    obtain ⟨_, _, ⟨T120, L120, k120, n120⟩, -, X120, ⟨Lc120, hQ120, l120, y120, z120⟩, st120⟩ := Jvm.LawKit.callS X119 hx (y := (⟨"java/lang/StringLatin1", "equals", "([B[B)Z"⟩ : MethodName)) hown (mvT hZ (hw _ (List.mem_of_getElem? (i := 290) rfl))) (mvT hZ (hw _ (List.mem_of_getElem? (i := 291) rfl))) (mvT hZ (hw _ (List.mem_of_getElem? (i := 292) rfl))) (mvT hZ (hw _ (List.mem_of_getElem? (i := 293) rfl))) (by decide) (own_backN (W := 0) (rm_leq l Z a0 hw [] t1 t2 k1 k2 bs ds h0 n0 Z0 V1 V2 m1 m2) hZ (hw _ (List.mem_of_getElem? (i := 293) rfl)) (hw _ (List.mem_of_getElem? (i := 292) rfl)) (by decide) (by decide)) (g := (mkF m 44 #[.val (.ref a1), .val (.ref a2), .val (.ref a2)] [(.ref t2), (.ref t1)])) rfl (by rw [hml]; rfl) (argsL := [(.ref t1), (.ref t2)]) (rest := []) (lenOf seq_pd0 rfl) rfl (by show 2 * 0 + _ ≤ _; exact Nat.le_of_eq rfl) (hb hby seq_d44) (fun _ _ => ⟨rfl, e119, Nat.le_of_ble_eq_true rfl, Nat.le_of_ble_eq_true rfl⟩)
    dsimp only [Pt.U, Pt.locs, Pt.cells, Pt.slots] at X120 l120 y120 z120 st120 hQ120
    subst l120 y120 z120
    obtain ⟨rfl, N120q, hh120⟩ := hQ120
    refine own_back st120 ?_
    have N120 := Fr.app N0 N120q
    show OwnGo p e below (T120.setTop (mkF m 47 #[.val (.ref a1), .val (.ref a2), .val (.ref a2)] [(.int (if bs = ds then (1 : Int32) else 0))])) _
    by_cases hc47_121 : (if bs = ds then (1 : Int32) else 0) = (0 : Int32)
    · refine own_back (fun t k => XS.ifYes X120.here hx rfl (pc0 := 47) (pc' := 54) rfl (hb hby seq_d47) rfl (Jvm.Free.XT.i0_eq_t hc47_121) (by decide) (by decide) k) ?_
      show OwnGo p e below (T120.setTop (mkF m 54 #[.val (.ref a1), .val (.ref a2), .val (.ref a2)] [])) _
      refine own_back (fun t k => XS.iconst X120.here hx rfl (hb hby seq_d54) k) ?_
      show OwnGo p e below (T120.setTop (mkF m 55 #[.val (.ref a1), .val (.ref a2), .val (.ref a2)] [(.int (0 : Int32))])) _
      refine own_retN X120 hx Bd.notSynchronized (t := .boolean) (z := (0 : Int32)) Bd.returns (by simp) rfl (hb hby seq_d55) hh120 (Nat.le_of_ble_eq_true rfl) (Nat.le_of_ble_eq_true rfl) ?_
      exact ⟨by rw [own_ite0 hc47_121], N120, rfl⟩
    · refine own_back (fun t k => XS.ifNo X120.here hx rfl (hb hby seq_d47) rfl (Jvm.Free.XT.i0_eq_f hc47_121) k) ?_
      show OwnGo p e below (T120.setTop (mkF m 50 #[.val (.ref a1), .val (.ref a2), .val (.ref a2)] [])) _
      refine own_back (fun t k => XS.iconst X120.here hx rfl (hb hby seq_d50) k) ?_
      show OwnGo p e below (T120.setTop (mkF m 51 #[.val (.ref a1), .val (.ref a2), .val (.ref a2)] [(.int (1 : Int32))])) _
      refine own_back (fun t k => XS.goto X120.here hx rfl (pc0 := 51) (pc' := 55) rfl (hb hby seq_d51) (by decide) (by decide) k) ?_
      show OwnGo p e below (T120.setTop (mkF m 55 #[.val (.ref a1), .val (.ref a2), .val (.ref a2)] [(.int (1 : Int32))])) _
      refine own_retN X120 hx Bd.notSynchronized (t := .boolean) (z := (1 : Int32)) Bd.returns (by simp) rfl (hb hby seq_d55) hh120 (Nat.le_of_ble_eq_true rfl) (Nat.le_of_ble_eq_true rfl) ?_
      exact ⟨by rw [own_ite1 hc47_121], N120, rfl⟩
theorem cod_d0 : decode jdk_42_method_152_code 0 = .ok (.getstatic 38, 3) := by decide +kernel
theorem cod_d3 : decode jdk_42_method_152_code 3 = .ok (.ifCond .eq 10, 3) := by decide +kernel
theorem cod_d6 : decode jdk_42_method_152_code 6 = .ok (.aload_n 0, 1) := by decide +kernel
theorem cod_d7 : decode jdk_42_method_152_code 7 = .ok (.getfield 15, 3) := by decide +kernel
theorem cod_d10 : decode jdk_42_method_152_code 10 = .ok (.goto 4, 3) := by decide +kernel
theorem cod_d14 : decode jdk_42_method_152_code 14 = .ok (.ireturn, 1) := by decide +kernel
theorem cod_pn : plainName "java/lang/String" = true := by first | (simp [plainName, overriddenIn]; done) | decide +kernel
theorem cod_ef (m : MethodId) (x0 : Addr) : entryFrame m #[(.ref x0)] 1 = mkF m 0 #[.val (.ref x0)] [] := by first | (simp [entryFrame, mkF, argsToLocals, Value.category]; done) | rfl
set_option maxRecDepth 65536 in
set_option maxHeartbeats 40000000 in
theorem rm_cod (l : Launch) (Z : State) (a0 : Array Value) (hw : ∀ d ∈ tables_1, d.before a0 Z = true) (ws : List Jvm.Cond) (a1 : Addr) (cz : Int32) (h0 : Heap) (n0 : Nat) (Z0 : n0 ≤ h0.size) (OL : Old Z n0 h0) (F1 : Fld Z h0 a1 "java/lang/String" "coder" "B" (.int 0)) (SC : Sta Z Z.heap "java/lang/String" "COMPACT_STRINGS" "Z" (.int cz)) (hcz : ¬ cz = 0) :
    MetFree l (⟨"java/lang/String", "coder", "()B"⟩ : MethodName) (head1 (Jvm.Cond.code (⟨"java/lang/String", "coder", "()B"⟩ : MethodName) jdk_42_method_152_code 1 (some .byte) :: ws) ({ frames := 0, cells := 0, slots := 0, locals := 0 } : Room)) (fun a U => a = #[(.ref a1)] ∧ Z.Warmed39 U.vm ∧ U.heap = h0) (fun _ _ _ _ _ => True) (fun _ U o U' => OwnEnd U (fun v h L => v = some (.int 0) ∧ Fr n0 L ∧ h = h0) ({ frames := 0, cells := 0, slots := 0, locals := 0 } : Room).cells ({ frames := 0, cells := 0, slots := 0, locals := 0 } : Room).slots o U') := by
  refine MetFree.of_bodySF (plainFor_of_name cod_pn) hisR ?_
  intro p e s m args below meth c s₁ Bd hml0 hP hK
  obtain ⟨rfl, hZ, hh⟩ := hP
  have hx := Bd.exec
  have hby := Bd.bytes
  have hml : c.maxLocals = 1 := hml0
  have hown : s.vm.findClass "java/lang/String" = some m.cls := findClass_of_methodNamed Bd.named
  have hnm := (name_of_methodNamed Bd.named Bd.method).1
  have X0 : Stand p l e ({ frames := 0, cells := 0, slots := 0, locals := 0 } : Room) s m #[(.ref a1)] below meth c s₁ [] 0 0 := Stand.of_body Bd
  have e0 : s₁.heap = h0 := by rw [← hh, Bd.state]; rfl
  have N0 := Fr.nil n0
  have KP0 := Keep.refl h0 []
  refine own_go (Q := (OwnEnd s (fun v h L => v = some (.int 0) ∧ Fr n0 L ∧ h = h0) ({ frames := 0, cells := 0, slots := 0, locals := 0 } : Room).cells ({ frames := 0, cells := 0, slots := 0, locals := 0 } : Room).slots)) ?_
  refine own_back (fun t k => castTop (cod_ef m a1) k) ?_
  show OwnGo p e below (s₁.setTop (mkF m 0 #[.val (.ref a1)] [])) _
  obtain ⟨T122, X122, e122, st122⟩ := getS2 X0 hx hZ hown (host := "") (Or.inl (hw _ (List.mem_of_getElem? (i := 100) rfl))) Via.refl e0 (SC.ext OL.2) (g := (mkF m 0 #[.val (.ref a1)] [])) rfl (hb hby cod_d0)
  refine own_back st122 ?_
  show OwnGo p e below (T122.setTop (mkF m 3 #[.val (.ref a1)] [(.int cz)])) _
  refine own_back (fun t k => XS.ifNo X122.here hx rfl (hb hby cod_d3) rfl (Jvm.Free.XT.i0_eq_f hcz) k) ?_
  show OwnGo p e below (T122.setTop (mkF m 6 #[.val (.ref a1)] [])) _
  refine own_back (fun t k => XS.aloadN X122.here hx rfl (hb hby cod_d6) rfl rfl k) ?_
  show OwnGo p e below (T122.setTop (mkF m 7 #[.val (.ref a1)] [(.ref a1)])) _
  obtain ⟨T123, X123, e123, st123⟩ := getF X122 hx hZ hown (host := "") (Or.inl (hw _ (List.mem_of_getElem? (i := 101) rfl))) Via.refl e122 F1 (g := (mkF m 7 #[.val (.ref a1)] [(.ref a1)])) rfl rfl (hb hby cod_d7)
  refine own_back st123 ?_
  show OwnGo p e below (T123.setTop (mkF m 10 #[.val (.ref a1)] [(.int (0 : Int32))])) _
  refine own_back (fun t k => XS.goto X123.here hx rfl (pc0 := 10) (pc' := 14) rfl (hb hby cod_d10) (by decide) (by decide) k) ?_
  show OwnGo p e below (T123.setTop (mkF m 14 #[.val (.ref a1)] [(.int (0 : Int32))])) _
  refine own_retN X123 hx Bd.notSynchronized (t := .byte) (z := (0 : Int32)) Bd.returns (by simp) rfl (hb hby cod_d14) e123 (Nat.le_of_ble_eq_true rfl) (Nat.le_of_ble_eq_true rfl) ?_
  exact ⟨rfl, N0, rfl⟩
theorem len_d0 : decode jdk_42_method_54_code 0 = .ok (.aload_n 0, 1) := by decide +kernel
theorem len_d1 : decode jdk_42_method_54_code 1 = .ok (.getfield 9, 3) := by decide +kernel
theorem len_d4 : decode jdk_42_method_54_code 4 = .ok (.arraylength, 1) := by decide +kernel
theorem len_d5 : decode jdk_42_method_54_code 5 = .ok (.aload_n 0, 1) := by decide +kernel
theorem len_d6 : decode jdk_42_method_54_code 6 = .ok (.invokevirtual 335, 3) := by decide +kernel
theorem len_d9 : decode jdk_42_method_54_code 9 = .ok (.ishr, 1) := by decide +kernel
theorem len_d10 : decode jdk_42_method_54_code 10 = .ok (.ireturn, 1) := by decide +kernel
theorem len_pn : plainName "java/lang/String" = true := by first | (simp [plainName, overriddenIn]; done) | decide +kernel
theorem len_pd0 : parseMethodDescriptor "()B" = some ⟨[], some .byte⟩ := by decide +kernel
theorem len_ef (m : MethodId) (x0 : Addr) : entryFrame m #[(.ref x0)] 1 = mkF m 0 #[.val (.ref x0)] [] := by first | (simp [entryFrame, mkF, argsToLocals, Value.category]; done) | rfl
set_option maxRecDepth 65536 in
set_option maxHeartbeats 40000000 in
theorem rm_len (l : Launch) (Z : State) (a0 : Array Value) (hw : ∀ d ∈ tables_1, d.before a0 Z = true) (ws : List Jvm.Cond) (a1 : Addr) (bs : List Int32) (cz : Int32) (h0 : Heap) (n0 : Nat) (Z0 : n0 ≤ h0.size) (OL : Old Z n0 h0) (B1 : OwnStr Z h0 a1 bs) (SC : Sta Z Z.heap "java/lang/String" "COMPACT_STRINGS" "Z" (.int cz)) (hcz : ¬ cz = 0) :
    MetFree l (⟨"java/lang/String", "length", "()I"⟩ : MethodName) (head1 (Jvm.Cond.code (⟨"java/lang/String", "length", "()I"⟩ : MethodName) jdk_42_method_54_code 1 (some .int) :: ws) ({ frames := 1, cells := 0, slots := 0, locals := 20 } : Room)) (fun a U => a = #[(.ref a1)] ∧ Z.Warmed39 U.vm ∧ U.heap = h0) (fun _ _ _ _ _ => True) (fun _ U o U' => OwnEnd U (fun v h L => v = some (.int (Int32.ofNat bs.length)) ∧ Fr n0 L ∧ h = h0) ({ frames := 1, cells := 0, slots := 0, locals := 20 } : Room).cells ({ frames := 1, cells := 0, slots := 0, locals := 20 } : Room).slots o U') := by
  refine MetFree.of_bodySF (plainFor_of_name len_pn) hisR ?_
  intro p e s m args below meth c s₁ Bd hml0 hP hK
  obtain ⟨rfl, hZ, hh⟩ := hP
  have hx := Bd.exec
  have hby := Bd.bytes
  have hml : c.maxLocals = 1 := hml0
  have hown : s.vm.findClass "java/lang/String" = some m.cls := findClass_of_methodNamed Bd.named
  have hnm := (name_of_methodNamed Bd.named Bd.method).1
  have X0 : Stand p l e ({ frames := 1, cells := 0, slots := 0, locals := 20 } : Room) s m #[(.ref a1)] below meth c s₁ [] 0 0 := Stand.of_body Bd
  have e0 : s₁.heap = h0 := by rw [← hh, Bd.state]; rfl
  have N0 := Fr.nil n0
  have KP0 := Keep.refl h0 []
  refine own_go (Q := (OwnEnd s (fun v h L => v = some (.int (Int32.ofNat bs.length)) ∧ Fr n0 L ∧ h = h0) ({ frames := 1, cells := 0, slots := 0, locals := 20 } : Room).cells ({ frames := 1, cells := 0, slots := 0, locals := 20 } : Room).slots)) ?_
  refine own_back (fun t k => castTop (len_ef m a1) k) ?_
  show OwnGo p e below (s₁.setTop (mkF m 0 #[.val (.ref a1)] [])) _
  obtain ⟨t1, k1, E1, C1, F1, V1, m1⟩ := id B1
  refine own_back (fun t k => XS.aloadN X0.here hx rfl (hb hby len_d0) rfl rfl k) ?_
  show OwnGo p e below (s₁.setTop (mkF m 1 #[.val (.ref a1)] [(.ref a1)])) _
  obtain ⟨T124, X124, e124, st124⟩ := getF X0 hx hZ hown (host := "") (Or.inl (hw _ (List.mem_of_getElem? (i := 94) rfl))) Via.refl e0 F1 (g := (mkF m 1 #[.val (.ref a1)] [(.ref a1)])) rfl rfl (hb hby len_d1)
  refine own_back st124 ?_
  show OwnGo p e below (T124.setTop (mkF m 4 #[.val (.ref a1)] [(.ref t1)])) _
  obtain ⟨c125, A125, q125, S125, M125, H125, U125⟩ := id V1
  refine own_back (fun t k => X124.arraylength hx (own_hat e124 A125.1) (State.isArrayOf_alike hZ.alike A125.2.1) (g := (mkF m 4 #[.val (.ref a1)] [(.ref t1)])) rfl rfl (hb hby len_d4) t k) ?_
  rw [len_of S125 M125]
  show OwnGo p e below (T124.setTop (mkF m 5 #[.val (.ref a1)] [(.int (Int32.ofNat bs.length))])) _
  refine own_back (fun t k => XS.aloadN X124.here hx rfl (hb hby len_d5) rfl rfl k) ?_
  show OwnGo p e below (T124.setTop (mkF m 6 #[.val (.ref a1)] [(.ref a1), (.int (Int32.ofNat bs.length))])) _
  obtain ⟨cq126, kq126, q126a, q126b, q126c⟩ := isOf hZ e124 E1
  obtain ⟨_, _, ⟨T126, L126, k126, n126⟩, -, X126, ⟨Lc126, hQ126, l126, y126, z126⟩, st126⟩ := X124.virtualBack hx (y := (⟨"java/lang/String", "coder", "()B"⟩ : MethodName)) (z := (⟨"java/lang/String", "coder", "()B"⟩ : MethodName)) hown (mvT hZ (hw _ (List.mem_of_getElem? (i := 95) rfl))) (mvT hZ (hw _ (List.mem_of_getElem? (i := 96) rfl))) (notFace_of_selects (args := #[]) (mvT hZ (hw _ (List.mem_of_getElem? (i := 98) rfl)))) (mvT hZ (hw _ (List.mem_of_getElem? (i := 98) rfl))) (mvT hZ (hw _ (List.mem_of_getElem? (i := 97) rfl))) (by decide) (own_backN (W := 1) (rm_cod l Z a0 hw [] a1 cz h0 n0 Z0 OL C1 SC hcz) hZ (hw _ (List.mem_of_getElem? (i := 99) rfl)) (hw _ (List.mem_of_getElem? (i := 10) rfl)) (by decide) (by decide)) q126a q126c (g := (mkF m 6 #[.val (.ref a1)] [(.ref a1), (.int (Int32.ofNat bs.length))])) rfl (by rw [hml]; rfl) (Steps.refl _) (argsL := []) (rest := [(.int (Int32.ofNat bs.length))]) (lenOf len_pd0 rfl) rfl (by show 2 * 0 + _ ≤ _; exact Nat.le_of_eq rfl) (hb hby len_d6) (fun _ _ => ⟨rfl, e124, Nat.le_of_ble_eq_true rfl, Nat.le_of_ble_eq_true rfl⟩)
  dsimp only [Pt.U, Pt.locs, Pt.cells, Pt.slots] at X126 l126 y126 z126 st126 hQ126
  subst l126 y126 z126
  obtain ⟨rfl, N126q, hh126⟩ := hQ126
  refine own_seq st126 ?_
  have N126 := Fr.app N0 N126q
  show OwnGo p e below (T126.setTop (mkF m 9 #[.val (.ref a1)] [(.int (0 : Int32)), (.int (Int32.ofNat bs.length))])) _
  refine own_back (fun t k => XS.ishr X126.here hx rfl (hb hby len_d9) rfl k) ?_
  show OwnGo p e below (T126.setTop (mkF m 10 #[.val (.ref a1)] [(.int ((Int32.ofNat bs.length) >>> ((0 : Int32) &&& 31)))])) _
  refine own_retI X126 hx Bd.notSynchronized Bd.returns (hb hby len_d10) hh126 (Nat.le_of_ble_eq_true rfl) (Nat.le_of_ble_eq_true rfl) ?_
  exact ⟨congrArg (fun z => some (Value.int z)) (own_shr0 _), N126, rfl⟩
theorem getMmum_d0 : decode jdk_2423_method_6_code 0 = .ok (.aload_n 0, 1) := by decide +kernel
theorem getMmum_d1 : decode jdk_2423_method_6_code 1 = .ok (.getfield 33, 3) := by decide +kernel
theorem getMmum_d4 : decode jdk_2423_method_6_code 4 = .ok (.lreturn, 1) := by decide +kernel
theorem getMmum_pn : plainName "java/time/temporal/ValueRange" = true := by first | (simp [plainName, overriddenIn]; done) | decide +kernel
theorem getMmum_ef (m : MethodId) (x0 : Addr) : entryFrame m #[(.ref x0)] 1 = mkF m 0 #[.val (.ref x0)] [] := by first | (simp [entryFrame, mkF, argsToLocals, Value.category]; done) | rfl
set_option maxRecDepth 65536 in
set_option maxHeartbeats 40000000 in
theorem rm_getMmum (l : Launch) (Z : State) (a0 : Array Value) (hw : ∀ d ∈ tables_1, d.before a0 Z = true) (ws : List Jvm.Cond) (a1 : Addr) (x1 : Int64) (h0 : Heap) (n0 : Nat) (Z0 : n0 ≤ h0.size) (F1 : Fld Z h0 a1 "java/time/temporal/ValueRange" "minSmallest" "J" (.long x1)) :
    MetFree l (⟨"java/time/temporal/ValueRange", "getMinimum", "()J"⟩ : MethodName) (head1 (Jvm.Cond.code (⟨"java/time/temporal/ValueRange", "getMinimum", "()J"⟩ : MethodName) jdk_2423_method_6_code 1 (some .long) :: ws) ({ frames := 0, cells := 0, slots := 0, locals := 0 } : Room)) (fun a U => a = #[(.ref a1)] ∧ Z.Warmed39 U.vm ∧ U.heap = h0) (fun _ _ _ _ _ => True) (fun _ U o U' => OwnEnd U (fun v h L => v = some (.long x1) ∧ Fr n0 L ∧ h = h0) ({ frames := 0, cells := 0, slots := 0, locals := 0 } : Room).cells ({ frames := 0, cells := 0, slots := 0, locals := 0 } : Room).slots o U') := by
  refine MetFree.of_bodySF (plainFor_of_name getMmum_pn) hisR ?_
  intro p e s m args below meth c s₁ Bd hml0 hP hK
  obtain ⟨rfl, hZ, hh⟩ := hP
  have hx := Bd.exec
  have hby := Bd.bytes
  have hml : c.maxLocals = 1 := hml0
  have hown : s.vm.findClass "java/time/temporal/ValueRange" = some m.cls := findClass_of_methodNamed Bd.named
  have hnm := (name_of_methodNamed Bd.named Bd.method).1
  have X0 : Stand p l e ({ frames := 0, cells := 0, slots := 0, locals := 0 } : Room) s m #[(.ref a1)] below meth c s₁ [] 0 0 := Stand.of_body Bd
  have e0 : s₁.heap = h0 := by rw [← hh, Bd.state]; rfl
  have N0 := Fr.nil n0
  have KP0 := Keep.refl h0 []
  refine own_go (Q := (OwnEnd s (fun v h L => v = some (.long x1) ∧ Fr n0 L ∧ h = h0) ({ frames := 0, cells := 0, slots := 0, locals := 0 } : Room).cells ({ frames := 0, cells := 0, slots := 0, locals := 0 } : Room).slots)) ?_
  refine own_back (fun t k => castTop (getMmum_ef m a1) k) ?_
  show OwnGo p e below (s₁.setTop (mkF m 0 #[.val (.ref a1)] [])) _
  refine own_back (fun t k => XS.aloadN X0.here hx rfl (hb hby getMmum_d0) rfl rfl k) ?_
  show OwnGo p e below (s₁.setTop (mkF m 1 #[.val (.ref a1)] [(.ref a1)])) _
  obtain ⟨T127, X127, e127, st127⟩ := getF X0 hx hZ hown (host := "") (Or.inl (hw _ (List.mem_of_getElem? (i := 168) rfl))) Via.refl e0 F1 (g := (mkF m 1 #[.val (.ref a1)] [(.ref a1)])) rfl rfl (hb hby getMmum_d1)
  refine own_back st127 ?_
  show OwnGo p e below (T127.setTop (mkF m 4 #[.val (.ref a1)] [(.long x1)])) _
  refine own_retJ X127 hx Bd.notSynchronized Bd.returns (hb hby getMmum_d4) e127 (Nat.le_of_ble_eq_true rfl) (Nat.le_of_ble_eq_true rfl) ?_
  exact ⟨rfl, N0, rfl⟩
theorem getXmum_d0 : decode jdk_2423_method_9_code 0 = .ok (.aload_n 0, 1) := by decide +kernel
theorem getXmum_d1 : decode jdk_2423_method_9_code 1 = .ok (.getfield 43, 3) := by decide +kernel
theorem getXmum_d4 : decode jdk_2423_method_9_code 4 = .ok (.lreturn, 1) := by decide +kernel
theorem getXmum_pn : plainName "java/time/temporal/ValueRange" = true := by first | (simp [plainName, overriddenIn]; done) | decide +kernel
theorem getXmum_ef (m : MethodId) (x0 : Addr) : entryFrame m #[(.ref x0)] 1 = mkF m 0 #[.val (.ref x0)] [] := by first | (simp [entryFrame, mkF, argsToLocals, Value.category]; done) | rfl
set_option maxRecDepth 65536 in
set_option maxHeartbeats 40000000 in
theorem rm_getXmum (l : Launch) (Z : State) (a0 : Array Value) (hw : ∀ d ∈ tables_1, d.before a0 Z = true) (ws : List Jvm.Cond) (a1 : Addr) (x1 : Int64) (h0 : Heap) (n0 : Nat) (Z0 : n0 ≤ h0.size) (F1 : Fld Z h0 a1 "java/time/temporal/ValueRange" "maxLargest" "J" (.long x1)) :
    MetFree l (⟨"java/time/temporal/ValueRange", "getMaximum", "()J"⟩ : MethodName) (head1 (Jvm.Cond.code (⟨"java/time/temporal/ValueRange", "getMaximum", "()J"⟩ : MethodName) jdk_2423_method_9_code 1 (some .long) :: ws) ({ frames := 0, cells := 0, slots := 0, locals := 0 } : Room)) (fun a U => a = #[(.ref a1)] ∧ Z.Warmed39 U.vm ∧ U.heap = h0) (fun _ _ _ _ _ => True) (fun _ U o U' => OwnEnd U (fun v h L => v = some (.long x1) ∧ Fr n0 L ∧ h = h0) ({ frames := 0, cells := 0, slots := 0, locals := 0 } : Room).cells ({ frames := 0, cells := 0, slots := 0, locals := 0 } : Room).slots o U') := by
  refine MetFree.of_bodySF (plainFor_of_name getXmum_pn) hisR ?_
  intro p e s m args below meth c s₁ Bd hml0 hP hK
  obtain ⟨rfl, hZ, hh⟩ := hP
  have hx := Bd.exec
  have hby := Bd.bytes
  have hml : c.maxLocals = 1 := hml0
  have hown : s.vm.findClass "java/time/temporal/ValueRange" = some m.cls := findClass_of_methodNamed Bd.named
  have hnm := (name_of_methodNamed Bd.named Bd.method).1
  have X0 : Stand p l e ({ frames := 0, cells := 0, slots := 0, locals := 0 } : Room) s m #[(.ref a1)] below meth c s₁ [] 0 0 := Stand.of_body Bd
  have e0 : s₁.heap = h0 := by rw [← hh, Bd.state]; rfl
  have N0 := Fr.nil n0
  have KP0 := Keep.refl h0 []
  refine own_go (Q := (OwnEnd s (fun v h L => v = some (.long x1) ∧ Fr n0 L ∧ h = h0) ({ frames := 0, cells := 0, slots := 0, locals := 0 } : Room).cells ({ frames := 0, cells := 0, slots := 0, locals := 0 } : Room).slots)) ?_
  refine own_back (fun t k => castTop (getXmum_ef m a1) k) ?_
  show OwnGo p e below (s₁.setTop (mkF m 0 #[.val (.ref a1)] [])) _
  refine own_back (fun t k => XS.aloadN X0.here hx rfl (hb hby getXmum_d0) rfl rfl k) ?_
  show OwnGo p e below (s₁.setTop (mkF m 1 #[.val (.ref a1)] [(.ref a1)])) _
  obtain ⟨T128, X128, e128, st128⟩ := getF X0 hx hZ hown (host := "") (Or.inl (hw _ (List.mem_of_getElem? (i := 175) rfl))) Via.refl e0 F1 (g := (mkF m 1 #[.val (.ref a1)] [(.ref a1)])) rfl rfl (hb hby getXmum_d1)
  refine own_back st128 ?_
  show OwnGo p e below (T128.setTop (mkF m 4 #[.val (.ref a1)] [(.long x1)])) _
  refine own_retJ X128 hx Bd.notSynchronized Bd.returns (hb hby getXmum_d4) e128 (Nat.le_of_ble_eq_true rfl) (Nat.le_of_ble_eq_true rfl) ?_
  exact ⟨rfl, N0, rfl⟩
theorem ivv_d0 : decode jdk_2423_method_11_code 0 = .ok (.lload_n 1, 1) := by decide +kernel
theorem ivv_d1 : decode jdk_2423_method_11_code 1 = .ok (.aload_n 0, 1) := by decide +kernel
theorem ivv_d2 : decode jdk_2423_method_11_code 2 = .ok (.invokevirtual 46, 3) := by decide +kernel
theorem ivv_d5 : decode jdk_2423_method_11_code 5 = .ok (.lcmp, 1) := by decide +kernel
theorem ivv_d6 : decode jdk_2423_method_11_code 6 = .ok (.ifCond .lt 16, 3) := by decide +kernel
theorem ivv_d9 : decode jdk_2423_method_11_code 9 = .ok (.lload_n 1, 1) := by decide +kernel
theorem ivv_d10 : decode jdk_2423_method_11_code 10 = .ok (.aload_n 0, 1) := by decide +kernel
theorem ivv_d11 : decode jdk_2423_method_11_code 11 = .ok (.invokevirtual 54, 3) := by decide +kernel
theorem ivv_d14 : decode jdk_2423_method_11_code 14 = .ok (.lcmp, 1) := by decide +kernel
theorem ivv_d15 : decode jdk_2423_method_11_code 15 = .ok (.ifCond .gt 7, 3) := by decide +kernel
theorem ivv_d18 : decode jdk_2423_method_11_code 18 = .ok (.iconst 1, 1) := by decide +kernel
theorem ivv_d19 : decode jdk_2423_method_11_code 19 = .ok (.goto 4, 3) := by decide +kernel
theorem ivv_d23 : decode jdk_2423_method_11_code 23 = .ok (.ireturn, 1) := by decide +kernel
theorem ivv_pn : plainName "java/time/temporal/ValueRange" = true := by first | (simp [plainName, overriddenIn]; done) | decide +kernel
theorem ivv_pd0 : parseMethodDescriptor "()J" = some ⟨[], some .long⟩ := by decide +kernel
theorem ivv_ef (m : MethodId) (x0 : Addr) (x1 : Int64) : entryFrame m #[(.ref x0), (.long x1)] 3 = mkF m 0 #[.val (.ref x0), .val (.long x1), .second] [] := by first | (simp [entryFrame, mkF, argsToLocals, Value.category]; done) | rfl
set_option maxRecDepth 65536 in
set_option maxHeartbeats 40000000 in
theorem rm_ivv (l : Launch) (Z : State) (a0 : Array Value) (hw : ∀ d ∈ tables_1, d.before a0 Z = true) (ws : List Jvm.Cond) (a1 : Addr) (h0 : Heap) (n0 : Nat) (Z0 : n0 ≤ h0.size) (E1 : Exa Z h0 a1 "java/time/temporal/ValueRange") (F1 : Fld Z h0 a1 "java/time/temporal/ValueRange" "minSmallest" "J" (.long (-365243219162))) (F2 : Fld Z h0 a1 "java/time/temporal/ValueRange" "maxLargest" "J" (.long 365241780471)) :
    MetFree l (⟨"java/time/temporal/ValueRange", "isValidValue", "(J)Z"⟩ : MethodName) (head1 (Jvm.Cond.code (⟨"java/time/temporal/ValueRange", "isValidValue", "(J)Z"⟩ : MethodName) jdk_2423_method_11_code 3 (some .boolean) :: ws) ({ frames := 1, cells := 0, slots := 0, locals := 20 } : Room)) (fun a U => a = #[(.ref a1), (.long (0 : Int64))] ∧ Z.Warmed39 U.vm ∧ U.heap = h0) (fun _ _ _ _ _ => True) (fun _ U o U' => OwnEnd U (fun v h L => v = some (.int 1) ∧ Fr n0 L ∧ h = h0) ({ frames := 1, cells := 0, slots := 0, locals := 20 } : Room).cells ({ frames := 1, cells := 0, slots := 0, locals := 20 } : Room).slots o U') := by
  refine MetFree.of_bodySF (plainFor_of_name ivv_pn) hisR ?_
  intro p e s m args below meth c s₁ Bd hml0 hP hK
  obtain ⟨rfl, hZ, hh⟩ := hP
  have hx := Bd.exec
  have hby := Bd.bytes
  have hml : c.maxLocals = 3 := hml0
  have hown : s.vm.findClass "java/time/temporal/ValueRange" = some m.cls := findClass_of_methodNamed Bd.named
  have hnm := (name_of_methodNamed Bd.named Bd.method).1
  have X0 : Stand p l e ({ frames := 1, cells := 0, slots := 0, locals := 20 } : Room) s m #[(.ref a1), (.long (0 : Int64))] below meth c s₁ [] 0 0 := Stand.of_body Bd
  have e0 : s₁.heap = h0 := by rw [← hh, Bd.state]; rfl
  have N0 := Fr.nil n0
  have KP0 := Keep.refl h0 []
  refine own_go (Q := (OwnEnd s (fun v h L => v = some (.int 1) ∧ Fr n0 L ∧ h = h0) ({ frames := 1, cells := 0, slots := 0, locals := 20 } : Room).cells ({ frames := 1, cells := 0, slots := 0, locals := 20 } : Room).slots)) ?_
  refine own_back (fun t k => castTop (ivv_ef m a1 (0 : Int64)) k) ?_
  show OwnGo p e below (s₁.setTop (mkF m 0 #[.val (.ref a1), .val (.long (0 : Int64)), .second] [])) _
  refine own_back (fun t k => XS.lloadN X0.here hx rfl (hb hby ivv_d0) rfl k) ?_
  show OwnGo p e below (s₁.setTop (mkF m 1 #[.val (.ref a1), .val (.long (0 : Int64)), .second] [(.long (0 : Int64))])) _
  refine own_back (fun t k => XS.aloadN X0.here hx rfl (hb hby ivv_d1) rfl rfl k) ?_
  show OwnGo p e below (s₁.setTop (mkF m 2 #[.val (.ref a1), .val (.long (0 : Int64)), .second] [(.ref a1), (.long (0 : Int64))])) _
  obtain ⟨cq129, kq129, q129a, q129b, q129c⟩ := isOf hZ e0 E1
  obtain ⟨_, _, ⟨T129, L129, k129, n129⟩, -, X129, ⟨Lc129, hQ129, l129, y129, z129⟩, st129⟩ := X0.virtualBack hx (y := (⟨"java/time/temporal/ValueRange", "getMinimum", "()J"⟩ : MethodName)) (z := (⟨"java/time/temporal/ValueRange", "getMinimum", "()J"⟩ : MethodName)) hown (mvT hZ (hw _ (List.mem_of_getElem? (i := 163) rfl))) (mvT hZ (hw _ (List.mem_of_getElem? (i := 164) rfl))) (notFace_of_selects (args := #[]) (mvT hZ (hw _ (List.mem_of_getElem? (i := 166) rfl)))) (mvT hZ (hw _ (List.mem_of_getElem? (i := 166) rfl))) (mvT hZ (hw _ (List.mem_of_getElem? (i := 165) rfl))) (by decide) (own_backN (W := 2) (rm_getMmum l Z a0 hw [] a1 (-365243219162) h0 n0 Z0 F1) hZ (hw _ (List.mem_of_getElem? (i := 167) rfl)) (hw _ (List.mem_of_getElem? (i := 156) rfl)) (by decide) (by decide)) q129a q129c (g := (mkF m 2 #[.val (.ref a1), .val (.long (0 : Int64)), .second] [(.ref a1), (.long (0 : Int64))])) rfl (by rw [hml]; rfl) (Steps.refl _) (argsL := []) (rest := [(.long (0 : Int64))]) (lenOf ivv_pd0 rfl) rfl (by show 2 * 0 + _ ≤ _; exact Nat.le_of_eq rfl) (hb hby ivv_d2) (fun _ _ => ⟨rfl, e0, Nat.le_of_ble_eq_true rfl, Nat.le_of_ble_eq_true rfl⟩)
  dsimp only [Pt.U, Pt.locs, Pt.cells, Pt.slots] at X129 l129 y129 z129 st129 hQ129
  subst l129 y129 z129
  obtain ⟨rfl, N129q, hh129⟩ := hQ129
  refine own_seq st129 ?_
  have N129 := Fr.app N0 N129q
  show OwnGo p e below (T129.setTop (mkF m 5 #[.val (.ref a1), .val (.long (0 : Int64)), .second] [(.long (-365243219162 : Int64)), (.long (0 : Int64))])) _
  refine own_back (fun t k => XT.lcmp X129.here hx rfl (hb hby ivv_d5) rfl k) ?_
  show OwnGo p e below (T129.setTop (mkF m 6 #[.val (.ref a1), .val (.long (0 : Int64)), .second] [(.int (XT.cmpL (0 : Int64) (-365243219162 : Int64)))])) _
  refine own_back (fun t k => XS.ifNo X129.here hx rfl (hb hby ivv_d6) rfl (Jvm.Free.XT.ll_lt_f (by decide)) k) ?_
  show OwnGo p e below (T129.setTop (mkF m 9 #[.val (.ref a1), .val (.long (0 : Int64)), .second] [])) _
  refine own_back (fun t k => XS.lloadN X129.here hx rfl (hb hby ivv_d9) rfl k) ?_
  show OwnGo p e below (T129.setTop (mkF m 10 #[.val (.ref a1), .val (.long (0 : Int64)), .second] [(.long (0 : Int64))])) _
  refine own_back (fun t k => XS.aloadN X129.here hx rfl (hb hby ivv_d10) rfl rfl k) ?_
  show OwnGo p e below (T129.setTop (mkF m 11 #[.val (.ref a1), .val (.long (0 : Int64)), .second] [(.ref a1), (.long (0 : Int64))])) _
  obtain ⟨cq130, kq130, q130a, q130b, q130c⟩ := isOf hZ hh129 E1
  obtain ⟨_, _, ⟨T130, L130, k130, n130⟩, -, X130, ⟨Lc130, hQ130, l130, y130, z130⟩, st130⟩ := X129.virtualBack hx (y := (⟨"java/time/temporal/ValueRange", "getMaximum", "()J"⟩ : MethodName)) (z := (⟨"java/time/temporal/ValueRange", "getMaximum", "()J"⟩ : MethodName)) hown (mvT hZ (hw _ (List.mem_of_getElem? (i := 170) rfl))) (mvT hZ (hw _ (List.mem_of_getElem? (i := 171) rfl))) (notFace_of_selects (args := #[]) (mvT hZ (hw _ (List.mem_of_getElem? (i := 173) rfl)))) (mvT hZ (hw _ (List.mem_of_getElem? (i := 173) rfl))) (mvT hZ (hw _ (List.mem_of_getElem? (i := 172) rfl))) (by decide) (own_backN (W := 2) (rm_getXmum l Z a0 hw [] a1 365241780471 h0 n0 Z0 F2) hZ (hw _ (List.mem_of_getElem? (i := 174) rfl)) (hw _ (List.mem_of_getElem? (i := 156) rfl)) (by decide) (by decide)) q130a q130c (g := (mkF m 11 #[.val (.ref a1), .val (.long (0 : Int64)), .second] [(.ref a1), (.long (0 : Int64))])) rfl (by rw [hml]; rfl) (Steps.refl _) (argsL := []) (rest := [(.long (0 : Int64))]) (lenOf ivv_pd0 rfl) rfl (by show 2 * 0 + _ ≤ _; exact Nat.le_of_eq rfl) (hb hby ivv_d11) (fun _ _ => ⟨rfl, hh129, Nat.le_of_ble_eq_true rfl, Nat.le_of_ble_eq_true rfl⟩)
  dsimp only [Pt.U, Pt.locs, Pt.cells, Pt.slots] at X130 l130 y130 z130 st130 hQ130
  subst l130 y130 z130
  obtain ⟨rfl, N130q, hh130⟩ := hQ130
  refine own_seq st130 ?_
  have N130 := Fr.app N129 N130q
  show OwnGo p e below (T130.setTop (mkF m 14 #[.val (.ref a1), .val (.long (0 : Int64)), .second] [(.long (365241780471 : Int64)), (.long (0 : Int64))])) _
  refine own_back (fun t k => XT.lcmp X130.here hx rfl (hb hby ivv_d14) rfl k) ?_
  show OwnGo p e below (T130.setTop (mkF m 15 #[.val (.ref a1), .val (.long (0 : Int64)), .second] [(.int (XT.cmpL (0 : Int64) (365241780471 : Int64)))])) _
  refine own_back (fun t k => XS.ifNo X130.here hx rfl (hb hby ivv_d15) rfl (Jvm.Free.XT.ll_gt_f (by decide)) k) ?_
  show OwnGo p e below (T130.setTop (mkF m 18 #[.val (.ref a1), .val (.long (0 : Int64)), .second] [])) _
  refine own_back (fun t k => XS.iconst X130.here hx rfl (hb hby ivv_d18) k) ?_
  show OwnGo p e below (T130.setTop (mkF m 19 #[.val (.ref a1), .val (.long (0 : Int64)), .second] [(.int (1 : Int32))])) _
  refine own_back (fun t k => XS.goto X130.here hx rfl (pc0 := 19) (pc' := 23) rfl (hb hby ivv_d19) (by decide) (by decide) k) ?_
  show OwnGo p e below (T130.setTop (mkF m 23 #[.val (.ref a1), .val (.long (0 : Int64)), .second] [(.int (1 : Int32))])) _
  refine own_retN X130 hx Bd.notSynchronized (t := .boolean) (z := (1 : Int32)) Bd.returns (by simp) rfl (hb hby ivv_d23) hh130 (Nat.le_of_ble_eq_true rfl) (Nat.le_of_ble_eq_true rfl) ?_
  exact ⟨rfl, N130, rfl⟩
theorem cvv_d0 : decode jdk_2423_method_13_code 0 = .ok (.aload_n 0, 1) := by decide +kernel
theorem cvv_d1 : decode jdk_2423_method_13_code 1 = .ok (.lload_n 1, 1) := by decide +kernel
theorem cvv_d2 : decode jdk_2423_method_13_code 2 = .ok (.invokevirtual 63, 3) := by decide +kernel
theorem cvv_d5 : decode jdk_2423_method_13_code 5 = .ok (.ifCond .ne 17, 3) := by decide +kernel
theorem cvv_d22 : decode jdk_2423_method_13_code 22 = .ok (.lload_n 1, 1) := by decide +kernel
theorem cvv_d23 : decode jdk_2423_method_13_code 23 = .ok (.lreturn, 1) := by decide +kernel
theorem cvv_pn : plainName "java/time/temporal/ValueRange" = true := by first | (simp [plainName, overriddenIn]; done) | decide +kernel
theorem cvv_pd0 : parseMethodDescriptor "(J)Z" = some ⟨[.long], some .boolean⟩ := by decide +kernel
theorem cvv_ef (m : MethodId) (x0 : Addr) (x1 : Int64) (x2 : Addr) : entryFrame m #[(.ref x0), (.long x1), (.ref x2)] 4 = mkF m 0 #[.val (.ref x0), .val (.long x1), .second, .val (.ref x2)] [] := by first | (simp [entryFrame, mkF, argsToLocals, Value.category]; done) | rfl
set_option maxRecDepth 65536 in
set_option maxHeartbeats 40000000 in
theorem rm_cvv (l : Launch) (Z : State) (a0 : Array Value) (hw : ∀ d ∈ tables_1, d.before a0 Z = true) (ws : List Jvm.Cond) (a1 : Addr) (a2 : Addr) (h0 : Heap) (n0 : Nat) (Z0 : n0 ≤ h0.size) (E1 : Exa Z h0 a1 "java/time/temporal/ValueRange") (F1 : Fld Z h0 a1 "java/time/temporal/ValueRange" "minSmallest" "J" (.long (-365243219162))) (F2 : Fld Z h0 a1 "java/time/temporal/ValueRange" "maxLargest" "J" (.long 365241780471)) :
    MetFree l (⟨"java/time/temporal/ValueRange", "checkValidValue", "(JLjava/time/temporal/TemporalField;)J"⟩ : MethodName) (head1 (Jvm.Cond.code (⟨"java/time/temporal/ValueRange", "checkValidValue", "(JLjava/time/temporal/TemporalField;)J"⟩ : MethodName) jdk_2423_method_13_code 4 (some .long) :: ws) ({ frames := 2, cells := 0, slots := 0, locals := 40 } : Room)) (fun a U => a = #[(.ref a1), (.long (0 : Int64)), (.ref a2)] ∧ Z.Warmed39 U.vm ∧ U.heap = h0) (fun _ _ _ _ _ => True) (fun _ U o U' => OwnEnd U (fun v h L => v = some (.long 0) ∧ Fr n0 L ∧ h = h0) ({ frames := 2, cells := 0, slots := 0, locals := 40 } : Room).cells ({ frames := 2, cells := 0, slots := 0, locals := 40 } : Room).slots o U') := by
  refine MetFree.of_bodySF (plainFor_of_name cvv_pn) hisR ?_
  intro p e s m args below meth c s₁ Bd hml0 hP hK
  obtain ⟨rfl, hZ, hh⟩ := hP
  have hx := Bd.exec
  have hby := Bd.bytes
  have hml : c.maxLocals = 4 := hml0
  have hown : s.vm.findClass "java/time/temporal/ValueRange" = some m.cls := findClass_of_methodNamed Bd.named
  have hnm := (name_of_methodNamed Bd.named Bd.method).1
  have X0 : Stand p l e ({ frames := 2, cells := 0, slots := 0, locals := 40 } : Room) s m #[(.ref a1), (.long (0 : Int64)), (.ref a2)] below meth c s₁ [] 0 0 := Stand.of_body Bd
  have e0 : s₁.heap = h0 := by rw [← hh, Bd.state]; rfl
  have N0 := Fr.nil n0
  have KP0 := Keep.refl h0 []
  refine own_go (Q := (OwnEnd s (fun v h L => v = some (.long 0) ∧ Fr n0 L ∧ h = h0) ({ frames := 2, cells := 0, slots := 0, locals := 40 } : Room).cells ({ frames := 2, cells := 0, slots := 0, locals := 40 } : Room).slots)) ?_
  refine own_back (fun t k => castTop (cvv_ef m a1 (0 : Int64) a2) k) ?_
  show OwnGo p e below (s₁.setTop (mkF m 0 #[.val (.ref a1), .val (.long (0 : Int64)), .second, .val (.ref a2)] [])) _
  refine own_back (fun t k => XS.aloadN X0.here hx rfl (hb hby cvv_d0) rfl rfl k) ?_
  show OwnGo p e below (s₁.setTop (mkF m 1 #[.val (.ref a1), .val (.long (0 : Int64)), .second, .val (.ref a2)] [(.ref a1)])) _
  refine own_back (fun t k => XS.lloadN X0.here hx rfl (hb hby cvv_d1) rfl k) ?_
  show OwnGo p e below (s₁.setTop (mkF m 2 #[.val (.ref a1), .val (.long (0 : Int64)), .second, .val (.ref a2)] [(.long (0 : Int64)), (.ref a1)])) _
  obtain ⟨cq131, kq131, q131a, q131b, q131c⟩ := isOf hZ e0 E1
  obtain ⟨_, _, ⟨T131, L131, k131, n131⟩, -, X131, ⟨Lc131, hQ131, l131, y131, z131⟩, st131⟩ := X0.virtualBack hx (y := (⟨"java/time/temporal/ValueRange", "isValidValue", "(J)Z"⟩ : MethodName)) (z := (⟨"java/time/temporal/ValueRange", "isValidValue", "(J)Z"⟩ : MethodName)) hown (mvT hZ (hw _ (List.mem_of_getElem? (i := 158) rfl))) (mvT hZ (hw _ (List.mem_of_getElem? (i := 159) rfl))) (notFace_of_selects (args := #[]) (mvT hZ (hw _ (List.mem_of_getElem? (i := 161) rfl)))) (mvT hZ (hw _ (List.mem_of_getElem? (i := 161) rfl))) (mvT hZ (hw _ (List.mem_of_getElem? (i := 160) rfl))) (by decide) (own_backN (W := 0) (rm_ivv l Z a0 hw [] a1 h0 n0 Z0 E1 F1 F2) hZ (hw _ (List.mem_of_getElem? (i := 162) rfl)) (hw _ (List.mem_of_getElem? (i := 156) rfl)) (by decide) (by decide)) q131a q131c (g := (mkF m 2 #[.val (.ref a1), .val (.long (0 : Int64)), .second, .val (.ref a2)] [(.long (0 : Int64)), (.ref a1)])) rfl (by rw [hml]; rfl) (Steps.refl _) (argsL := [(.long (0 : Int64))]) (rest := []) (lenOf cvv_pd0 rfl) rfl (by show 2 * 0 + _ ≤ _; exact Nat.le_of_eq rfl) (hb hby cvv_d2) (fun _ _ => ⟨rfl, e0, Nat.le_of_ble_eq_true rfl, Nat.le_of_ble_eq_true rfl⟩)
  dsimp only [Pt.U, Pt.locs, Pt.cells, Pt.slots] at X131 l131 y131 z131 st131 hQ131
  subst l131 y131 z131
  obtain ⟨rfl, N131q, hh131⟩ := hQ131
  refine own_seq st131 ?_
  have N131 := Fr.app N0 N131q
  show OwnGo p e below (T131.setTop (mkF m 5 #[.val (.ref a1), .val (.long (0 : Int64)), .second, .val (.ref a2)] [(.int (1 : Int32))])) _
  refine own_back (fun t k => XS.ifYes X131.here hx rfl (pc0 := 5) (pc' := 22) rfl (hb hby cvv_d5) rfl (Jvm.Free.XT.i0_ne_t (by decide)) (by decide) (by decide) k) ?_
  show OwnGo p e below (T131.setTop (mkF m 22 #[.val (.ref a1), .val (.long (0 : Int64)), .second, .val (.ref a2)] [])) _
  refine own_back (fun t k => XS.lloadN X131.here hx rfl (hb hby cvv_d22) rfl k) ?_
  show OwnGo p e below (T131.setTop (mkF m 23 #[.val (.ref a1), .val (.long (0 : Int64)), .second, .val (.ref a2)] [(.long (0 : Int64))])) _
  refine own_retJ X131 hx Bd.notSynchronized Bd.returns (hb hby cvv_d23) hh131 (Nat.le_of_ble_eq_true rfl) (Nat.le_of_ble_eq_true rfl) ?_
  exact ⟨rfl, N131, rfl⟩
theorem rng_d0 : decode jdk_2395_method_8_code 0 = .ok (.aload_n 0, 1) := by decide +kernel
theorem rng_d1 : decode jdk_2395_method_8_code 1 = .ok (.getfield 124, 3) := by decide +kernel
theorem rng_d4 : decode jdk_2395_method_8_code 4 = .ok (.areturn, 1) := by decide +kernel
theorem rng_pn : plainName "java/time/temporal/ChronoField" = true := by first | (simp [plainName, overriddenIn]; done) | decide +kernel
theorem rng_ef (m : MethodId) (x0 : Addr) : entryFrame m #[(.ref x0)] 1 = mkF m 0 #[.val (.ref x0)] [] := by first | (simp [entryFrame, mkF, argsToLocals, Value.category]; done) | rfl
set_option maxRecDepth 65536 in
set_option maxHeartbeats 40000000 in
theorem rm_rng (l : Launch) (Z : State) (a0 : Array Value) (hw : ∀ d ∈ tables_1, d.before a0 Z = true) (ws : List Jvm.Cond) (a1 : Addr) (a2 : Addr) (h0 : Heap) (n0 : Nat) (Z0 : n0 ≤ h0.size) (F1 : Fld Z h0 a1 "java/time/temporal/ChronoField" "range" "Ljava/time/temporal/ValueRange;" (.ref a2)) :
    MetFree l (⟨"java/time/temporal/ChronoField", "range", "()Ljava/time/temporal/ValueRange;"⟩ : MethodName) (head1 (Jvm.Cond.code (⟨"java/time/temporal/ChronoField", "range", "()Ljava/time/temporal/ValueRange;"⟩ : MethodName) jdk_2395_method_8_code 1 (some (.object "java/time/temporal/ValueRange")) :: ws) ({ frames := 0, cells := 0, slots := 0, locals := 0 } : Room)) (fun a U => a = #[(.ref a1)] ∧ Z.Warmed39 U.vm ∧ U.heap = h0) (fun _ _ _ _ _ => True) (fun _ U o U' => OwnEnd U (fun v h L => v = some (.ref a2) ∧ Fr n0 L ∧ h = h0) ({ frames := 0, cells := 0, slots := 0, locals := 0 } : Room).cells ({ frames := 0, cells := 0, slots := 0, locals := 0 } : Room).slots o U') := by
  refine MetFree.of_bodySF (plainFor_of_name rng_pn) hisR ?_
  intro p e s m args below meth c s₁ Bd hml0 hP hK
  obtain ⟨rfl, hZ, hh⟩ := hP
  have hx := Bd.exec
  have hby := Bd.bytes
  have hml : c.maxLocals = 1 := hml0
  have hown : s.vm.findClass "java/time/temporal/ChronoField" = some m.cls := findClass_of_methodNamed Bd.named
  have hnm := (name_of_methodNamed Bd.named Bd.method).1
  have X0 : Stand p l e ({ frames := 0, cells := 0, slots := 0, locals := 0 } : Room) s m #[(.ref a1)] below meth c s₁ [] 0 0 := Stand.of_body Bd
  have e0 : s₁.heap = h0 := by rw [← hh, Bd.state]; rfl
  have N0 := Fr.nil n0
  have KP0 := Keep.refl h0 []
  refine own_go (Q := (OwnEnd s (fun v h L => v = some (.ref a2) ∧ Fr n0 L ∧ h = h0) ({ frames := 0, cells := 0, slots := 0, locals := 0 } : Room).cells ({ frames := 0, cells := 0, slots := 0, locals := 0 } : Room).slots)) ?_
  refine own_back (fun t k => castTop (rng_ef m a1) k) ?_
  show OwnGo p e below (s₁.setTop (mkF m 0 #[.val (.ref a1)] [])) _
  refine own_back (fun t k => XS.aloadN X0.here hx rfl (hb hby rng_d0) rfl rfl k) ?_
  show OwnGo p e below (s₁.setTop (mkF m 1 #[.val (.ref a1)] [(.ref a1)])) _
  obtain ⟨T132, X132, e132, st132⟩ := getF X0 hx hZ hown (host := "") (Or.inl (hw _ (List.mem_of_getElem? (i := 150) rfl))) Via.refl e0 F1 (g := (mkF m 1 #[.val (.ref a1)] [(.ref a1)])) rfl rfl (hb hby rng_d1)
  refine own_back st132 ?_
  show OwnGo p e below (T132.setTop (mkF m 4 #[.val (.ref a1)] [(.ref a2)])) _
  refine own_retA X132 hx Bd.notSynchronized Bd.returns rfl rfl (hb hby rng_d4) e132 (Nat.le_of_ble_eq_true rfl) (Nat.le_of_ble_eq_true rfl) ?_
  exact ⟨rfl, N0, rfl⟩
theorem ccv_d0 : decode jdk_2395_method_11_code 0 = .ok (.aload_n 0, 1) := by decide +kernel
theorem ccv_d1 : decode jdk_2395_method_11_code 1 = .ok (.invokevirtual 190, 3) := by decide +kernel
theorem ccv_d4 : decode jdk_2395_method_11_code 4 = .ok (.lload_n 1, 1) := by decide +kernel
theorem ccv_d5 : decode jdk_2395_method_11_code 5 = .ok (.aload_n 0, 1) := by decide +kernel
theorem ccv_d6 : decode jdk_2395_method_11_code 6 = .ok (.invokevirtual 193, 3) := by decide +kernel
theorem ccv_d9 : decode jdk_2395_method_11_code 9 = .ok (.lreturn, 1) := by decide +kernel
theorem ccv_pn : plainName "java/time/temporal/ChronoField" = true := by first | (simp [plainName, overriddenIn]; done) | decide +kernel
theorem ccv_pd0 : parseMethodDescriptor "()Ljava/time/temporal/ValueRange;" = some ⟨[], some (.object "java/time/temporal/ValueRange")⟩ := by decide +kernel
theorem ccv_pd1 : parseMethodDescriptor "(JLjava/time/temporal/TemporalField;)J" = some ⟨[.long, (.object "java/time/temporal/TemporalField")], some .long⟩ := by decide +kernel
theorem ccv_ef (m : MethodId) (x0 : Addr) (x1 : Int64) : entryFrame m #[(.ref x0), (.long x1)] 3 = mkF m 0 #[.val (.ref x0), .val (.long x1), .second] [] := by first | (simp [entryFrame, mkF, argsToLocals, Value.category]; done) | rfl
set_option maxRecDepth 65536 in
set_option maxHeartbeats 40000000 in
theorem rm_ccv (l : Launch) (Z : State) (a0 : Array Value) (hw : ∀ d ∈ tables_1, d.before a0 Z = true) (ws : List Jvm.Cond) (a1 : Addr) (a2 : Addr) (h0 : Heap) (n0 : Nat) (Z0 : n0 ≤ h0.size) (EC : Exa Z h0 a1 "java/time/temporal/ChronoField") (FR : Fld Z h0 a1 "java/time/temporal/ChronoField" "range" "Ljava/time/temporal/ValueRange;" (.ref a2)) (EV : Exa Z h0 a2 "java/time/temporal/ValueRange") (F1 : Fld Z h0 a2 "java/time/temporal/ValueRange" "minSmallest" "J" (.long (-365243219162))) (F2 : Fld Z h0 a2 "java/time/temporal/ValueRange" "maxLargest" "J" (.long 365241780471)) :
    MetFree l (⟨"java/time/temporal/ChronoField", "checkValidValue", "(J)J"⟩ : MethodName) (head1 (Jvm.Cond.code (⟨"java/time/temporal/ChronoField", "checkValidValue", "(J)J"⟩ : MethodName) jdk_2395_method_11_code 3 (some .long) :: ws) ({ frames := 3, cells := 0, slots := 0, locals := 60 } : Room)) (fun a U => a = #[(.ref a1), (.long (0 : Int64))] ∧ Z.Warmed39 U.vm ∧ U.heap = h0) (fun _ _ _ _ _ => True) (fun _ U o U' => OwnEnd U (fun v h L => v = some (.long 0) ∧ Fr n0 L ∧ h = h0) ({ frames := 3, cells := 0, slots := 0, locals := 60 } : Room).cells ({ frames := 3, cells := 0, slots := 0, locals := 60 } : Room).slots o U') := by
  refine MetFree.of_bodySF (plainFor_of_name ccv_pn) hisR ?_
  intro p e s m args below meth c s₁ Bd hml0 hP hK
  obtain ⟨rfl, hZ, hh⟩ := hP
  have hx := Bd.exec
  have hby := Bd.bytes
  have hml : c.maxLocals = 3 := hml0
  have hown : s.vm.findClass "java/time/temporal/ChronoField" = some m.cls := findClass_of_methodNamed Bd.named
  have hnm := (name_of_methodNamed Bd.named Bd.method).1
  have X0 : Stand p l e ({ frames := 3, cells := 0, slots := 0, locals := 60 } : Room) s m #[(.ref a1), (.long (0 : Int64))] below meth c s₁ [] 0 0 := Stand.of_body Bd
  have e0 : s₁.heap = h0 := by rw [← hh, Bd.state]; rfl
  have N0 := Fr.nil n0
  have KP0 := Keep.refl h0 []
  refine own_go (Q := (OwnEnd s (fun v h L => v = some (.long 0) ∧ Fr n0 L ∧ h = h0) ({ frames := 3, cells := 0, slots := 0, locals := 60 } : Room).cells ({ frames := 3, cells := 0, slots := 0, locals := 60 } : Room).slots)) ?_
  refine own_back (fun t k => castTop (ccv_ef m a1 (0 : Int64)) k) ?_
  show OwnGo p e below (s₁.setTop (mkF m 0 #[.val (.ref a1), .val (.long (0 : Int64)), .second] [])) _
  refine own_back (fun t k => XS.aloadN X0.here hx rfl (hb hby ccv_d0) rfl rfl k) ?_
  show OwnGo p e below (s₁.setTop (mkF m 1 #[.val (.ref a1), .val (.long (0 : Int64)), .second] [(.ref a1)])) _
  obtain ⟨cq133, kq133, q133a, q133b, q133c⟩ := isOf hZ e0 EC
  obtain ⟨_, _, ⟨T133, L133, k133, n133⟩, -, X133, ⟨Lc133, hQ133, l133, y133, z133⟩, st133⟩ := X0.virtualBack hx (y := (⟨"java/time/temporal/ChronoField", "range", "()Ljava/time/temporal/ValueRange;"⟩ : MethodName)) (z := (⟨"java/time/temporal/ChronoField", "range", "()Ljava/time/temporal/ValueRange;"⟩ : MethodName)) hown (mvT hZ (hw _ (List.mem_of_getElem? (i := 145) rfl))) (mvT hZ (hw _ (List.mem_of_getElem? (i := 146) rfl))) (notFace_of_selects (args := #[]) (mvT hZ (hw _ (List.mem_of_getElem? (i := 148) rfl)))) (mvT hZ (hw _ (List.mem_of_getElem? (i := 148) rfl))) (mvT hZ (hw _ (List.mem_of_getElem? (i := 147) rfl))) (by decide) (own_backN (W := 0) (rm_rng l Z a0 hw [] a1 a2 h0 n0 Z0 FR) hZ (hw _ (List.mem_of_getElem? (i := 149) rfl)) (hw _ (List.mem_of_getElem? (i := 139) rfl)) (by decide) (by decide)) q133a q133c (g := (mkF m 1 #[.val (.ref a1), .val (.long (0 : Int64)), .second] [(.ref a1)])) rfl (by rw [hml]; rfl) (Steps.refl _) (argsL := []) (rest := []) (lenOf ccv_pd0 rfl) rfl (by show 2 * 0 + _ ≤ _; exact Nat.le_of_eq rfl) (hb hby ccv_d1) (fun _ _ => ⟨rfl, e0, Nat.le_of_ble_eq_true rfl, Nat.le_of_ble_eq_true rfl⟩)
  dsimp only [Pt.U, Pt.locs, Pt.cells, Pt.slots] at X133 l133 y133 z133 st133 hQ133
  subst l133 y133 z133
  obtain ⟨rfl, N133q, hh133⟩ := hQ133
  refine own_seq st133 ?_
  have N133 := Fr.app N0 N133q
  show OwnGo p e below (T133.setTop (mkF m 4 #[.val (.ref a1), .val (.long (0 : Int64)), .second] [(.ref a2)])) _
  refine own_back (fun t k => XS.lloadN X133.here hx rfl (hb hby ccv_d4) rfl k) ?_
  show OwnGo p e below (T133.setTop (mkF m 5 #[.val (.ref a1), .val (.long (0 : Int64)), .second] [(.long (0 : Int64)), (.ref a2)])) _
  refine own_back (fun t k => XS.aloadN X133.here hx rfl (hb hby ccv_d5) rfl rfl k) ?_
  show OwnGo p e below (T133.setTop (mkF m 6 #[.val (.ref a1), .val (.long (0 : Int64)), .second] [(.ref a1), (.long (0 : Int64)), (.ref a2)])) _
  obtain ⟨cq134, kq134, q134a, q134b, q134c⟩ := isOf hZ hh133 EV
  obtain ⟨_, _, ⟨T134, L134, k134, n134⟩, -, X134, ⟨Lc134, hQ134, l134, y134, z134⟩, st134⟩ := X133.virtualBack hx (y := (⟨"java/time/temporal/ValueRange", "checkValidValue", "(JLjava/time/temporal/TemporalField;)J"⟩ : MethodName)) (z := (⟨"java/time/temporal/ValueRange", "checkValidValue", "(JLjava/time/temporal/TemporalField;)J"⟩ : MethodName)) hown (mvT hZ (hw _ (List.mem_of_getElem? (i := 152) rfl))) (mvT hZ (hw _ (List.mem_of_getElem? (i := 153) rfl))) (notFace_of_selects (args := #[]) (mvT hZ (hw _ (List.mem_of_getElem? (i := 155) rfl)))) (mvT hZ (hw _ (List.mem_of_getElem? (i := 155) rfl))) (mvT hZ (hw _ (List.mem_of_getElem? (i := 154) rfl))) (by decide) (own_backN (W := 0) (rm_cvv l Z a0 hw [] a2 a1 h0 n0 Z0 EV F1 F2) hZ (hw _ (List.mem_of_getElem? (i := 157) rfl)) (hw _ (List.mem_of_getElem? (i := 156) rfl)) (by decide) (by decide)) q134a q134c (g := (mkF m 6 #[.val (.ref a1), .val (.long (0 : Int64)), .second] [(.ref a1), (.long (0 : Int64)), (.ref a2)])) rfl (by rw [hml]; rfl) (Steps.refl _) (argsL := [(.long (0 : Int64)), (.ref a1)]) (rest := []) (lenOf ccv_pd1 rfl) rfl (by show 2 * 0 + _ ≤ _; exact Nat.le_of_eq rfl) (hb hby ccv_d6) (fun _ _ => ⟨rfl, hh133, Nat.le_of_ble_eq_true rfl, Nat.le_of_ble_eq_true rfl⟩)
  dsimp only [Pt.U, Pt.locs, Pt.cells, Pt.slots] at X134 l134 y134 z134 st134 hQ134
  subst l134 y134 z134
  obtain ⟨rfl, N134q, hh134⟩ := hQ134
  refine own_seq st134 ?_
  have N134 := Fr.app N133 N134q
  show OwnGo p e below (T134.setTop (mkF m 9 #[.val (.ref a1), .val (.long (0 : Int64)), .second] [(.long (0 : Int64))])) _
  refine own_retJ X134 hx Bd.notSynchronized Bd.returns (hb hby ccv_d9) hh134 (Nat.le_of_ble_eq_true rfl) (Nat.le_of_ble_eq_true rfl) ?_
  exact ⟨rfl, N134, rfl⟩
theorem ldi_d0 : decode jdk_2323_method_14_code 0 = .ok (.aload_n 0, 1) := by decide +kernel
theorem ldi_d1 : decode jdk_2323_method_14_code 1 = .ok (.invokespecial 243, 3) := by decide +kernel
theorem ldi_d4 : decode jdk_2323_method_14_code 4 = .ok (.aload_n 0, 1) := by decide +kernel
theorem ldi_d5 : decode jdk_2323_method_14_code 5 = .ok (.iload_n 1, 1) := by decide +kernel
theorem ldi_d6 : decode jdk_2323_method_14_code 6 = .ok (.putfield 246, 3) := by decide +kernel
theorem ldi_d9 : decode jdk_2323_method_14_code 9 = .ok (.aload_n 0, 1) := by decide +kernel
theorem ldi_d10 : decode jdk_2323_method_14_code 10 = .ok (.iload_n 2, 1) := by decide +kernel
theorem ldi_d11 : decode jdk_2323_method_14_code 11 = .ok (.i2s, 1) := by decide +kernel
theorem ldi_d12 : decode jdk_2323_method_14_code 12 = .ok (.putfield 250, 3) := by decide +kernel
theorem ldi_d15 : decode jdk_2323_method_14_code 15 = .ok (.aload_n 0, 1) := by decide +kernel
theorem ldi_d16 : decode jdk_2323_method_14_code 16 = .ok (.iload_n 3, 1) := by decide +kernel
theorem ldi_d17 : decode jdk_2323_method_14_code 17 = .ok (.i2s, 1) := by decide +kernel
theorem ldi_d18 : decode jdk_2323_method_14_code 18 = .ok (.putfield 253, 3) := by decide +kernel
theorem ldi_d21 : decode jdk_2323_method_14_code 21 = .ok (.return_, 1) := by decide +kernel
theorem ldi_pn : plainName "java/time/LocalDate" = true := by first | (simp [plainName, overriddenIn]; done) | decide +kernel
theorem ldi_ef (m : MethodId) (x0 : Addr) (x1 : Int32) (x2 : Int32) (x3 : Int32) : entryFrame m #[(.ref x0), (.int x1), (.int x3), (.int x3)] 4 = mkF m 0 #[.val (.ref x0), .val (.int x1), .val (.int x3), .val (.int x3)] [] := by first | (simp [entryFrame, mkF, argsToLocals, Value.category]; done) | rfl
set_option maxRecDepth 65536 in
set_option maxHeartbeats 40000000 in
theorem rm_ldi (l : Launch) (Z : State) (a0 : Array Value) (hw : ∀ d ∈ tables_1, d.before a0 Z = true) (ws : List Jvm.Cond) (a1 : Addr) (h0 : Heap) (n0 : Nat) (Z0 : n0 ≤ h0.size) (OL : Old Z n0 h0) (E1 : Exa Z h0 a1 "java/time/LocalDate") (G0 : Fld Z h0 a1 "java/time/LocalDate" "year" "I" (.int 0)) (G1 : Fld Z h0 a1 "java/time/LocalDate" "month" "S" (.int 0)) (G2 : Fld Z h0 a1 "java/time/LocalDate" "day" "S" (.int 0)) (g1 : n0 ≤ a1) :
    MetFree l (⟨"java/time/LocalDate", "<init>", "(III)V"⟩ : MethodName) (head1 (Jvm.Cond.code (⟨"java/time/LocalDate", "<init>", "(III)V"⟩ : MethodName) jdk_2323_method_14_code 4 none :: ws) ({ frames := 1, cells := 0, slots := 0, locals := 14 } : Room)) (fun a U => a = #[(.ref a1), (.int (1970 : Int32)), (.int (1 : Int32)), (.int (1 : Int32))] ∧ Z.Warmed39 U.vm ∧ U.heap = h0) (fun _ _ _ _ _ => True) (fun _ U o U' => OwnEnd U (fun v h L => v = none ∧ Fr n0 L ∧ Keep h0 h [a1] ∧ Exa Z h a1 "java/time/LocalDate" ∧ Fld Z h a1 "java/time/LocalDate" "year" "I" (.int 1970) ∧ Fld Z h a1 "java/time/LocalDate" "month" "S" (.int 1) ∧ Fld Z h a1 "java/time/LocalDate" "day" "S" (.int 1)) ({ frames := 1, cells := 0, slots := 0, locals := 14 } : Room).cells ({ frames := 1, cells := 0, slots := 0, locals := 14 } : Room).slots o U') := by
  refine MetFree.of_bodySF (plainFor_of_name ldi_pn) hisR ?_
  intro p e s m args below meth c s₁ Bd hml0 hP hK
  obtain ⟨rfl, hZ, hh⟩ := hP
  have hx := Bd.exec
  have hby := Bd.bytes
  have hml : c.maxLocals = 4 := hml0
  have hown : s.vm.findClass "java/time/LocalDate" = some m.cls := findClass_of_methodNamed Bd.named
  have hnm := (name_of_methodNamed Bd.named Bd.method).1
  have X0 : Stand p l e ({ frames := 1, cells := 0, slots := 0, locals := 14 } : Room) s m #[(.ref a1), (.int (1970 : Int32)), (.int (1 : Int32)), (.int (1 : Int32))] below meth c s₁ [] 0 0 := Stand.of_body Bd
  have e0 : s₁.heap = h0 := by rw [← hh, Bd.state]; rfl
  have N0 := Fr.nil n0
  have KP0 := Keep.refl h0 [a1]
  refine own_go (Q := (OwnEnd s (fun v h L => v = none ∧ Fr n0 L ∧ Keep h0 h [a1] ∧ Exa Z h a1 "java/time/LocalDate" ∧ Fld Z h a1 "java/time/LocalDate" "year" "I" (.int 1970) ∧ Fld Z h a1 "java/time/LocalDate" "month" "S" (.int 1) ∧ Fld Z h a1 "java/time/LocalDate" "day" "S" (.int 1)) ({ frames := 1, cells := 0, slots := 0, locals := 14 } : Room).cells ({ frames := 1, cells := 0, slots := 0, locals := 14 } : Room).slots)) ?_
  refine own_back (fun t k => castTop (ldi_ef m a1 (1970 : Int32) (1 : Int32) (1 : Int32)) k) ?_
  show OwnGo p e below (s₁.setTop (mkF m 0 #[.val (.ref a1), .val (.int (1970 : Int32)), .val (.int (1 : Int32)), .val (.int (1 : Int32))] [])) _
  refine own_back (fun t k => XS.aloadN X0.here hx rfl (hb hby ldi_d0) rfl rfl k) ?_
  show OwnGo p e below (s₁.setTop (mkF m 1 #[.val (.ref a1), .val (.int (1970 : Int32)), .val (.int (1 : Int32)), .val (.int (1 : Int32))] [(.ref a1)])) _
  obtain ⟨T135, X135, e135, st135⟩ := initO X0 hx hZ hown (hw _ (List.mem_of_getElem? (i := 191) rfl)) (hw _ (List.mem_of_getElem? (i := 22) rfl)) (hw _ (List.mem_of_getElem? (i := 23) rfl)) e0 (g := (mkF m 1 #[.val (.ref a1), .val (.int (1970 : Int32)), .val (.int (1 : Int32)), .val (.int (1 : Int32))] [(.ref a1)])) rfl (by rw [hml]; rfl) rfl (hb hby ldi_d1) (by decide) (W := 0) (by show 2 * 0 + _ ≤ _; exact Nat.le_of_eq rfl) (by decide)
  refine own_back st135 ?_
  show OwnGo p e below (T135.setTop (mkF m 4 #[.val (.ref a1), .val (.int (1970 : Int32)), .val (.int (1 : Int32)), .val (.int (1 : Int32))] [])) _
  refine own_back (fun t k => XS.aloadN X135.here hx rfl (hb hby ldi_d4) rfl rfl k) ?_
  show OwnGo p e below (T135.setTop (mkF m 5 #[.val (.ref a1), .val (.int (1970 : Int32)), .val (.int (1 : Int32)), .val (.int (1 : Int32))] [(.ref a1)])) _
  refine own_back (fun t k => XS.iloadN X135.here hx rfl (hb hby ldi_d5) rfl k) ?_
  show OwnGo p e below (T135.setTop (mkF m 6 #[.val (.ref a1), .val (.int (1970 : Int32)), .val (.int (1 : Int32)), .val (.int (1 : Int32))] [(.int (1970 : Int32)), (.ref a1)])) _
  obtain ⟨T136, h136, X136, e136, W136, st136⟩ := putF X135 hx hZ hown (host := "") (Or.inl (hw _ (List.mem_of_getElem? (i := 192) rfl))) Via.refl e135 G0 E1 (Or.inr ⟨(hw _ (List.mem_of_getElem? (i := 193) rfl)), rfl, hnm⟩) (hw _ (List.mem_of_getElem? (i := 186) rfl)) (ty := .int) (by decide) rfl rfl (g := (mkF m 6 #[.val (.ref a1), .val (.int (1970 : Int32)), .val (.int (1 : Int32)), .val (.int (1 : Int32))] [(.int (1970 : Int32)), (.ref a1)])) rfl rfl (hb hby ldi_d6)
  have O137 := OL.wr W136 g1
  have KP138 := KP0.wr W136 (Or.inl (List.mem_of_getElem? (i := 0) rfl))
  have Zs139 := Nat.le_trans Z0 (Keep.of_wr W136).1
  have f140 := E1.wr W136
  have f141 := G1.other W136 (Or.inr (slot_ne (Or.inr (hw _ (List.mem_of_getElem? (i := 195) rfl))) (Or.inr (hw _ (List.mem_of_getElem? (i := 193) rfl))) (by decide) (t := .short) (t' := .int) (by decide) (by decide)))
  have f142 := G2.other W136 (Or.inr (slot_ne (Or.inr (hw _ (List.mem_of_getElem? (i := 197) rfl))) (Or.inr (hw _ (List.mem_of_getElem? (i := 193) rfl))) (by decide) (t := .short) (t' := .int) (by decide) (by decide)))
  have F143 := G0.same W136
  have N144 := Fr.snoc X136 N0 g1
  refine own_back st136 ?_
  show OwnGo p e below (T136.setTop (mkF m 9 #[.val (.ref a1), .val (.int (1970 : Int32)), .val (.int (1 : Int32)), .val (.int (1 : Int32))] [])) _
  refine own_back (fun t k => XS.aloadN X136.here hx rfl (hb hby ldi_d9) rfl rfl k) ?_
  show OwnGo p e below (T136.setTop (mkF m 10 #[.val (.ref a1), .val (.int (1970 : Int32)), .val (.int (1 : Int32)), .val (.int (1 : Int32))] [(.ref a1)])) _
  refine own_back (fun t k => XS.iloadN X136.here hx rfl (hb hby ldi_d10) rfl k) ?_
  show OwnGo p e below (T136.setTop (mkF m 11 #[.val (.ref a1), .val (.int (1970 : Int32)), .val (.int (1 : Int32)), .val (.int (1 : Int32))] [(.int (1 : Int32)), (.ref a1)])) _
  refine own_back (fun t k => XS.i2s X136.here hx rfl (hb hby ldi_d11) rfl k) ?_
  show OwnGo p e below (T136.setTop (mkF m 12 #[.val (.ref a1), .val (.int (1970 : Int32)), .val (.int (1 : Int32)), .val (.int (1 : Int32))] [(.int (1 : Int32).toInt16.toInt32), (.ref a1)])) _
  rw [show (1 : Int32).toInt16.toInt32 = (1 : Int32) from by decide]
  show OwnGo p e below (T136.setTop (mkF m 12 #[.val (.ref a1), .val (.int (1970 : Int32)), .val (.int (1 : Int32)), .val (.int (1 : Int32))] [(.int (1 : Int32)), (.ref a1)])) _
  obtain ⟨T145, h145, X145, e145, W145, st145⟩ := putF X136 hx hZ hown (host := "") (Or.inl (hw _ (List.mem_of_getElem? (i := 194) rfl))) Via.refl e136 f141 f140 (Or.inr ⟨(hw _ (List.mem_of_getElem? (i := 195) rfl)), rfl, hnm⟩) (hw _ (List.mem_of_getElem? (i := 186) rfl)) (ty := .short) (by decide) rfl rfl (g := (mkF m 12 #[.val (.ref a1), .val (.int (1970 : Int32)), .val (.int (1 : Int32)), .val (.int (1 : Int32))] [(.int (1 : Int32)), (.ref a1)])) rfl rfl (hb hby ldi_d12)
  have O146 := O137.wr W145 g1
  have KP147 := KP138.wr W145 (Or.inl (List.mem_of_getElem? (i := 0) rfl))
  have Zs148 := Nat.le_trans Zs139 (Keep.of_wr W145).1
  have f149 := f140.wr W145
  have f150 := f142.other W145 (Or.inr (slot_ne (Or.inr (hw _ (List.mem_of_getElem? (i := 197) rfl))) (Or.inr (hw _ (List.mem_of_getElem? (i := 195) rfl))) (by decide) (t := .short) (t' := .short) (by decide) (by decide)))
  have f151 := F143.other W145 (Or.inr (slot_ne (Or.inr (hw _ (List.mem_of_getElem? (i := 193) rfl))) (Or.inr (hw _ (List.mem_of_getElem? (i := 195) rfl))) (by decide) (t := .int) (t' := .short) (by decide) (by decide)))
  have F152 := f141.same W145
  have N153 := Fr.snoc X145 N144 g1
  refine own_back st145 ?_
  show OwnGo p e below (T145.setTop (mkF m 15 #[.val (.ref a1), .val (.int (1970 : Int32)), .val (.int (1 : Int32)), .val (.int (1 : Int32))] [])) _
  refine own_back (fun t k => XS.aloadN X145.here hx rfl (hb hby ldi_d15) rfl rfl k) ?_
  show OwnGo p e below (T145.setTop (mkF m 16 #[.val (.ref a1), .val (.int (1970 : Int32)), .val (.int (1 : Int32)), .val (.int (1 : Int32))] [(.ref a1)])) _
  refine own_back (fun t k => XS.iloadN X145.here hx rfl (hb hby ldi_d16) rfl k) ?_
  show OwnGo p e below (T145.setTop (mkF m 17 #[.val (.ref a1), .val (.int (1970 : Int32)), .val (.int (1 : Int32)), .val (.int (1 : Int32))] [(.int (1 : Int32)), (.ref a1)])) _
  refine own_back (fun t k => XS.i2s X145.here hx rfl (hb hby ldi_d17) rfl k) ?_
  show OwnGo p e below (T145.setTop (mkF m 18 #[.val (.ref a1), .val (.int (1970 : Int32)), .val (.int (1 : Int32)), .val (.int (1 : Int32))] [(.int (1 : Int32).toInt16.toInt32), (.ref a1)])) _
  rw [show (1 : Int32).toInt16.toInt32 = (1 : Int32) from by decide]
  show OwnGo p e below (T145.setTop (mkF m 18 #[.val (.ref a1), .val (.int (1970 : Int32)), .val (.int (1 : Int32)), .val (.int (1 : Int32))] [(.int (1 : Int32)), (.ref a1)])) _
  obtain ⟨T154, h154, X154, e154, W154, st154⟩ := putF X145 hx hZ hown (host := "") (Or.inl (hw _ (List.mem_of_getElem? (i := 196) rfl))) Via.refl e145 f150 f149 (Or.inr ⟨(hw _ (List.mem_of_getElem? (i := 197) rfl)), rfl, hnm⟩) (hw _ (List.mem_of_getElem? (i := 186) rfl)) (ty := .short) (by decide) rfl rfl (g := (mkF m 18 #[.val (.ref a1), .val (.int (1970 : Int32)), .val (.int (1 : Int32)), .val (.int (1 : Int32))] [(.int (1 : Int32)), (.ref a1)])) rfl rfl (hb hby ldi_d18)
  have O155 := O146.wr W154 g1
  have KP156 := KP147.wr W154 (Or.inl (List.mem_of_getElem? (i := 0) rfl))
  have Zs157 := Nat.le_trans Zs148 (Keep.of_wr W154).1
  have f158 := f149.wr W154
  have f159 := f151.other W154 (Or.inr (slot_ne (Or.inr (hw _ (List.mem_of_getElem? (i := 193) rfl))) (Or.inr (hw _ (List.mem_of_getElem? (i := 197) rfl))) (by decide) (t := .int) (t' := .short) (by decide) (by decide)))
  have f160 := F152.other W154 (Or.inr (slot_ne (Or.inr (hw _ (List.mem_of_getElem? (i := 195) rfl))) (Or.inr (hw _ (List.mem_of_getElem? (i := 197) rfl))) (by decide) (t := .short) (t' := .short) (by decide) (by decide)))
  have F161 := f150.same W154
  have N162 := Fr.snoc X154 N153 g1
  refine own_back st154 ?_
  show OwnGo p e below (T154.setTop (mkF m 21 #[.val (.ref a1), .val (.int (1970 : Int32)), .val (.int (1 : Int32)), .val (.int (1 : Int32))] [])) _
  refine own_retV X154 hx Bd.notSynchronized Bd.returns (hb hby ldi_d21) e154 (Nat.le_of_ble_eq_true rfl) (Nat.le_of_ble_eq_true rfl) ?_
  exact ⟨rfl, N162, KP156, f158, f159, f160, F161⟩
theorem oed_d0 : decode jdk_2323_method_8_code 0 = .ok (.getstatic 161, 3) := by decide +kernel
theorem oed_d3 : decode jdk_2323_method_8_code 3 = .ok (.lload_n 0, 1) := by decide +kernel
theorem oed_d4 : decode jdk_2323_method_8_code 4 = .ok (.invokevirtual 45, 3) := by decide +kernel
theorem oed_d7 : decode jdk_2323_method_8_code 7 = .ok (.pop2, 1) := by decide +kernel
theorem oed_d8 : decode jdk_2323_method_8_code 8 = .ok (.lload_n 0, 1) := by decide +kernel
theorem oed_d9 : decode jdk_2323_method_8_code 9 = .ok (.ldc2_w 164, 3) := by decide +kernel
theorem oed_d12 : decode jdk_2323_method_8_code 12 = .ok (.ladd, 1) := by decide +kernel
theorem oed_d13 : decode jdk_2323_method_8_code 13 = .ok (.lstore_n 2, 1) := by decide +kernel
theorem oed_d14 : decode jdk_2323_method_8_code 14 = .ok (.lload_n 2, 1) := by decide +kernel
theorem oed_d15 : decode jdk_2323_method_8_code 15 = .ok (.ldc2_w 166, 3) := by decide +kernel
theorem oed_d18 : decode jdk_2323_method_8_code 18 = .ok (.lsub, 1) := by decide +kernel
theorem oed_d19 : decode jdk_2323_method_8_code 19 = .ok (.lstore_n 2, 1) := by decide +kernel
theorem oed_d20 : decode jdk_2323_method_8_code 20 = .ok (.lconst 0, 1) := by decide +kernel
theorem oed_d21 : decode jdk_2323_method_8_code 21 = .ok (.lstore 4, 2) := by decide +kernel
theorem oed_d23 : decode jdk_2323_method_8_code 23 = .ok (.lload_n 2, 1) := by decide +kernel
theorem oed_d24 : decode jdk_2323_method_8_code 24 = .ok (.lconst 0, 1) := by decide +kernel
theorem oed_d25 : decode jdk_2323_method_8_code 25 = .ok (.lcmp, 1) := by decide +kernel
theorem oed_d26 : decode jdk_2323_method_8_code 26 = .ok (.ifCond .ge 32, 3) := by decide +kernel
theorem oed_d58 : decode jdk_2323_method_8_code 58 = .ok (.ldc2_w 170, 3) := by decide +kernel
theorem oed_d61 : decode jdk_2323_method_8_code 61 = .ok (.lload_n 2, 1) := by decide +kernel
theorem oed_d62 : decode jdk_2323_method_8_code 62 = .ok (.lmul, 1) := by decide +kernel
theorem oed_d63 : decode jdk_2323_method_8_code 63 = .ok (.ldc2_w 172, 3) := by decide +kernel
theorem oed_d66 : decode jdk_2323_method_8_code 66 = .ok (.ladd, 1) := by decide +kernel
theorem oed_d67 : decode jdk_2323_method_8_code 67 = .ok (.ldc2_w 168, 3) := by decide +kernel
theorem oed_d70 : decode jdk_2323_method_8_code 70 = .ok (.ldiv, 1) := by decide +kernel
theorem oed_d71 : decode jdk_2323_method_8_code 71 = .ok (.lstore 6, 2) := by decide +kernel
theorem oed_d73 : decode jdk_2323_method_8_code 73 = .ok (.lload_n 2, 1) := by decide +kernel
theorem oed_d74 : decode jdk_2323_method_8_code 74 = .ok (.ldc2_w 174, 3) := by decide +kernel
theorem oed_d77 : decode jdk_2323_method_8_code 77 = .ok (.lload 6, 2) := by decide +kernel
theorem oed_d79 : decode jdk_2323_method_8_code 79 = .ok (.lmul, 1) := by decide +kernel
theorem oed_d80 : decode jdk_2323_method_8_code 80 = .ok (.lload 6, 2) := by decide +kernel
theorem oed_d82 : decode jdk_2323_method_8_code 82 = .ok (.ldc2_w 176, 3) := by decide +kernel
theorem oed_d85 : decode jdk_2323_method_8_code 85 = .ok (.ldiv, 1) := by decide +kernel
theorem oed_d86 : decode jdk_2323_method_8_code 86 = .ok (.ladd, 1) := by decide +kernel
theorem oed_d87 : decode jdk_2323_method_8_code 87 = .ok (.lload 6, 2) := by decide +kernel
theorem oed_d89 : decode jdk_2323_method_8_code 89 = .ok (.ldc2_w 178, 3) := by decide +kernel
theorem oed_d92 : decode jdk_2323_method_8_code 92 = .ok (.ldiv, 1) := by decide +kernel
theorem oed_d93 : decode jdk_2323_method_8_code 93 = .ok (.lsub, 1) := by decide +kernel
theorem oed_d94 : decode jdk_2323_method_8_code 94 = .ok (.lload 6, 2) := by decide +kernel
theorem oed_d96 : decode jdk_2323_method_8_code 96 = .ok (.ldc2_w 170, 3) := by decide +kernel
theorem oed_d99 : decode jdk_2323_method_8_code 99 = .ok (.ldiv, 1) := by decide +kernel
theorem oed_d100 : decode jdk_2323_method_8_code 100 = .ok (.ladd, 1) := by decide +kernel
theorem oed_d101 : decode jdk_2323_method_8_code 101 = .ok (.lsub, 1) := by decide +kernel
theorem oed_d102 : decode jdk_2323_method_8_code 102 = .ok (.lstore 8, 2) := by decide +kernel
theorem oed_d104 : decode jdk_2323_method_8_code 104 = .ok (.lload 8, 2) := by decide +kernel
theorem oed_d106 : decode jdk_2323_method_8_code 106 = .ok (.lconst 0, 1) := by decide +kernel
theorem oed_d107 : decode jdk_2323_method_8_code 107 = .ok (.lcmp, 1) := by decide +kernel
theorem oed_d108 : decode jdk_2323_method_8_code 108 = .ok (.ifCond .ge 40, 3) := by decide +kernel
theorem oed_d148 : decode jdk_2323_method_8_code 148 = .ok (.lload 6, 2) := by decide +kernel
theorem oed_d150 : decode jdk_2323_method_8_code 150 = .ok (.lload 4, 2) := by decide +kernel
theorem oed_d152 : decode jdk_2323_method_8_code 152 = .ok (.ladd, 1) := by decide +kernel
theorem oed_d153 : decode jdk_2323_method_8_code 153 = .ok (.lstore 6, 2) := by decide +kernel
theorem oed_d155 : decode jdk_2323_method_8_code 155 = .ok (.lload 8, 2) := by decide +kernel
theorem oed_d157 : decode jdk_2323_method_8_code 157 = .ok (.l2i, 1) := by decide +kernel
theorem oed_d158 : decode jdk_2323_method_8_code 158 = .ok (.istore 10, 2) := by decide +kernel
theorem oed_d160 : decode jdk_2323_method_8_code 160 = .ok (.iload 10, 2) := by decide +kernel
theorem oed_d162 : decode jdk_2323_method_8_code 162 = .ok (.iconst 5, 1) := by decide +kernel
theorem oed_d163 : decode jdk_2323_method_8_code 163 = .ok (.imul, 1) := by decide +kernel
theorem oed_d164 : decode jdk_2323_method_8_code 164 = .ok (.iconst 2, 1) := by decide +kernel
theorem oed_d165 : decode jdk_2323_method_8_code 165 = .ok (.iadd, 1) := by decide +kernel
theorem oed_d166 : decode jdk_2323_method_8_code 166 = .ok (.sipush 153, 3) := by decide +kernel
theorem oed_d169 : decode jdk_2323_method_8_code 169 = .ok (.idiv, 1) := by decide +kernel
theorem oed_d170 : decode jdk_2323_method_8_code 170 = .ok (.istore 11, 2) := by decide +kernel
theorem oed_d172 : decode jdk_2323_method_8_code 172 = .ok (.iload 11, 2) := by decide +kernel
theorem oed_d174 : decode jdk_2323_method_8_code 174 = .ok (.iconst 3, 1) := by decide +kernel
theorem oed_d175 : decode jdk_2323_method_8_code 175 = .ok (.iadd, 1) := by decide +kernel
theorem oed_d176 : decode jdk_2323_method_8_code 176 = .ok (.istore 12, 2) := by decide +kernel
theorem oed_d178 : decode jdk_2323_method_8_code 178 = .ok (.iload 12, 2) := by decide +kernel
theorem oed_d180 : decode jdk_2323_method_8_code 180 = .ok (.bipush 12, 2) := by decide +kernel
theorem oed_d182 : decode jdk_2323_method_8_code 182 = .ok (.if_icmp .le 6, 3) := by decide +kernel
theorem oed_d185 : decode jdk_2323_method_8_code 185 = .ok (.iinc 12 (-12), 3) := by decide +kernel
theorem oed_d188 : decode jdk_2323_method_8_code 188 = .ok (.iload 10, 2) := by decide +kernel
theorem oed_d190 : decode jdk_2323_method_8_code 190 = .ok (.iload 11, 2) := by decide +kernel
theorem oed_d192 : decode jdk_2323_method_8_code 192 = .ok (.sipush 306, 3) := by decide +kernel
theorem oed_d195 : decode jdk_2323_method_8_code 195 = .ok (.imul, 1) := by decide +kernel
theorem oed_d196 : decode jdk_2323_method_8_code 196 = .ok (.iconst 5, 1) := by decide +kernel
theorem oed_d197 : decode jdk_2323_method_8_code 197 = .ok (.iadd, 1) := by decide +kernel
theorem oed_d198 : decode jdk_2323_method_8_code 198 = .ok (.bipush 10, 2) := by decide +kernel
theorem oed_d200 : decode jdk_2323_method_8_code 200 = .ok (.idiv, 1) := by decide +kernel
theorem oed_d201 : decode jdk_2323_method_8_code 201 = .ok (.isub, 1) := by decide +kernel
theorem oed_d202 : decode jdk_2323_method_8_code 202 = .ok (.iconst 1, 1) := by decide +kernel
theorem oed_d203 : decode jdk_2323_method_8_code 203 = .ok (.iadd, 1) := by decide +kernel
theorem oed_d204 : decode jdk_2323_method_8_code 204 = .ok (.istore 13, 2) := by decide +kernel
theorem oed_d206 : decode jdk_2323_method_8_code 206 = .ok (.iload 10, 2) := by decide +kernel
theorem oed_d208 : decode jdk_2323_method_8_code 208 = .ok (.sipush 306, 3) := by decide +kernel
theorem oed_d211 : decode jdk_2323_method_8_code 211 = .ok (.if_icmp .lt 9, 3) := by decide +kernel
theorem oed_d214 : decode jdk_2323_method_8_code 214 = .ok (.lload 6, 2) := by decide +kernel
theorem oed_d216 : decode jdk_2323_method_8_code 216 = .ok (.lconst 1, 1) := by decide +kernel
theorem oed_d217 : decode jdk_2323_method_8_code 217 = .ok (.ladd, 1) := by decide +kernel
theorem oed_d218 : decode jdk_2323_method_8_code 218 = .ok (.lstore 6, 2) := by decide +kernel
theorem oed_d220 : decode jdk_2323_method_8_code 220 = .ok (.new 1, 3) := by decide +kernel
theorem oed_d223 : decode jdk_2323_method_8_code 223 = .ok (.dup, 1) := by decide +kernel
theorem oed_d224 : decode jdk_2323_method_8_code 224 = .ok (.lload 6, 2) := by decide +kernel
theorem oed_d226 : decode jdk_2323_method_8_code 226 = .ok (.l2i, 1) := by decide +kernel
theorem oed_d227 : decode jdk_2323_method_8_code 227 = .ok (.iload 12, 2) := by decide +kernel
theorem oed_d229 : decode jdk_2323_method_8_code 229 = .ok (.iload 13, 2) := by decide +kernel
theorem oed_d231 : decode jdk_2323_method_8_code 231 = .ok (.invokespecial 121, 3) := by decide +kernel
theorem oed_d234 : decode jdk_2323_method_8_code 234 = .ok (.areturn, 1) := by decide +kernel
theorem oed_pn : plainName "java/time/LocalDate" = true := by first | (simp [plainName, overriddenIn]; done) | decide +kernel
theorem oed_pd0 : parseMethodDescriptor "(J)J" = some ⟨[.long], some .long⟩ := by decide +kernel
theorem oed_pd1 : parseMethodDescriptor "(III)V" = some ⟨[.int, .int, .int], none⟩ := by decide +kernel
theorem oed_ef (m : MethodId) (x0 : Int64) : entryFrame m #[(.long x0)] 14 = mkF m 0 #[.val (.long x0), .second, .unset, .unset, .unset, .unset, .unset, .unset, .unset, .unset, .unset, .unset, .unset, .unset] [] := by first | (simp [entryFrame, mkF, argsToLocals, Value.category]; done) | rfl
set_option maxRecDepth 65536 in
set_option maxHeartbeats 40000000 in
theorem rm_oed (l : Launch) (Z : State) (a0 : Array Value) (hw : ∀ d ∈ tables_1, d.before a0 Z = true) (ws : List Jvm.Cond) (a1 : Addr) (a2 : Addr) (h0 : Heap) (n0 : Nat) (Z0 : n0 ≤ h0.size) (OL : Old Z n0 h0) (SE : Sta Z Z.heap "java/time/temporal/ChronoField" "EPOCH_DAY" "Ljava/time/temporal/ChronoField;" (.ref a1)) (EC : Exa Z Z.heap a1 "java/time/temporal/ChronoField") (FR : Fld Z Z.heap a1 "java/time/temporal/ChronoField" "range" "Ljava/time/temporal/ValueRange;" (.ref a2)) (EV : Exa Z Z.heap a2 "java/time/temporal/ValueRange") (F1 : Fld Z Z.heap a2 "java/time/temporal/ValueRange" "minSmallest" "J" (.long (-365243219162))) (F2 : Fld Z Z.heap a2 "java/time/temporal/ValueRange" "maxLargest" "J" (.long 365241780471)) :
    MetFree l (⟨"java/time/LocalDate", "ofEpochDay", "(J)Ljava/time/LocalDate;"⟩ : MethodName) (head1 (Jvm.Cond.code (⟨"java/time/LocalDate", "ofEpochDay", "(J)Ljava/time/LocalDate;"⟩ : MethodName) jdk_2323_method_8_code 14 (some (.object "java/time/LocalDate")) :: ws) ({ frames := 4, cells := 1, slots := 4, locals := 90 } : Room)) (fun a U => a = #[(.long (0 : Int64))] ∧ Z.Warmed39 U.vm ∧ U.heap = h0) (fun _ _ _ _ _ => True) (fun _ U o U' => OwnEnd U (fun v h L => ∃ a, v = some (.ref a) ∧ Fr n0 L ∧ Ext h0 h ∧ h0.size ≤ a ∧ Exa Z h a "java/time/LocalDate" ∧ Fld Z h a "java/time/LocalDate" "year" "I" (.int 1970) ∧ Fld Z h a "java/time/LocalDate" "month" "S" (.int 1) ∧ Fld Z h a "java/time/LocalDate" "day" "S" (.int 1)) ({ frames := 4, cells := 1, slots := 4, locals := 90 } : Room).cells ({ frames := 4, cells := 1, slots := 4, locals := 90 } : Room).slots o U') := by
  refine MetFree.of_bodySF (plainFor_of_name oed_pn) hisR ?_
  intro p e s m args below meth c s₁ Bd hml0 hP hK
  obtain ⟨rfl, hZ, hh⟩ := hP
  have hx := Bd.exec
  have hby := Bd.bytes
  have hml : c.maxLocals = 14 := hml0
  have hown : s.vm.findClass "java/time/LocalDate" = some m.cls := findClass_of_methodNamed Bd.named
  have hnm := (name_of_methodNamed Bd.named Bd.method).1
  have X0 : Stand p l e ({ frames := 4, cells := 1, slots := 4, locals := 90 } : Room) s m #[(.long (0 : Int64))] below meth c s₁ [] 0 0 := Stand.of_body Bd
  have e0 : s₁.heap = h0 := by rw [← hh, Bd.state]; rfl
  have N0 := Fr.nil n0
  have KP0 := Keep.refl h0 []
  refine own_go (Q := (OwnEnd s (fun v h L => ∃ a, v = some (.ref a) ∧ Fr n0 L ∧ Ext h0 h ∧ h0.size ≤ a ∧ Exa Z h a "java/time/LocalDate" ∧ Fld Z h a "java/time/LocalDate" "year" "I" (.int 1970) ∧ Fld Z h a "java/time/LocalDate" "month" "S" (.int 1) ∧ Fld Z h a "java/time/LocalDate" "day" "S" (.int 1)) ({ frames := 4, cells := 1, slots := 4, locals := 90 } : Room).cells ({ frames := 4, cells := 1, slots := 4, locals := 90 } : Room).slots)) ?_
  refine own_back (fun t k => castTop (oed_ef m (0 : Int64)) k) ?_
  show OwnGo p e below (s₁.setTop (mkF m 0 #[.val (.long (0 : Int64)), .second, .unset, .unset, .unset, .unset, .unset, .unset, .unset, .unset, .unset, .unset, .unset, .unset] [])) _
  obtain ⟨T163, X163, e163, st163⟩ := getS2 X0 hx hZ hown (host := "") (Or.inl (hw _ (List.mem_of_getElem? (i := 138) rfl))) Via.refl e0 (SE.ext OL.2) (g := (mkF m 0 #[.val (.long (0 : Int64)), .second, .unset, .unset, .unset, .unset, .unset, .unset, .unset, .unset, .unset, .unset, .unset, .unset] [])) rfl (hb hby oed_d0)
  refine own_back st163 ?_
  show OwnGo p e below (T163.setTop (mkF m 3 #[.val (.long (0 : Int64)), .second, .unset, .unset, .unset, .unset, .unset, .unset, .unset, .unset, .unset, .unset, .unset, .unset] [(.ref a1)])) _
  refine own_back (fun t k => XS.lloadN X163.here hx rfl (hb hby oed_d3) rfl k) ?_
  show OwnGo p e below (T163.setTop (mkF m 4 #[.val (.long (0 : Int64)), .second, .unset, .unset, .unset, .unset, .unset, .unset, .unset, .unset, .unset, .unset, .unset, .unset] [(.long (0 : Int64)), (.ref a1)])) _
  obtain ⟨cq164, kq164, q164a, q164b, q164c⟩ := isOf hZ e163 (EC.ext OL.2)
  obtain ⟨_, _, ⟨T164, L164, k164, n164⟩, -, X164, ⟨Lc164, hQ164, l164, y164, z164⟩, st164⟩ := X163.virtualBack hx (y := (⟨"java/time/temporal/ChronoField", "checkValidValue", "(J)J"⟩ : MethodName)) (z := (⟨"java/time/temporal/ChronoField", "checkValidValue", "(J)J"⟩ : MethodName)) hown (mvT hZ (hw _ (List.mem_of_getElem? (i := 140) rfl))) (mvT hZ (hw _ (List.mem_of_getElem? (i := 141) rfl))) (notFace_of_selects (args := #[]) (mvT hZ (hw _ (List.mem_of_getElem? (i := 143) rfl)))) (mvT hZ (hw _ (List.mem_of_getElem? (i := 143) rfl))) (mvT hZ (hw _ (List.mem_of_getElem? (i := 142) rfl))) (by decide) (own_backN (W := 0) (rm_ccv l Z a0 hw [] a1 a2 h0 n0 Z0 (EC.ext OL.2) (FR.ext OL.2) (EV.ext OL.2) (F1.ext OL.2) (F2.ext OL.2)) hZ (hw _ (List.mem_of_getElem? (i := 144) rfl)) (hw _ (List.mem_of_getElem? (i := 139) rfl)) (by decide) (by decide)) q164a q164c (g := (mkF m 4 #[.val (.long (0 : Int64)), .second, .unset, .unset, .unset, .unset, .unset, .unset, .unset, .unset, .unset, .unset, .unset, .unset] [(.long (0 : Int64)), (.ref a1)])) rfl (by rw [hml]; rfl) (Steps.refl _) (argsL := [(.long (0 : Int64))]) (rest := []) (lenOf oed_pd0 rfl) rfl (by show 2 * 0 + _ ≤ _; exact Nat.le_of_eq rfl) (hb hby oed_d4) (fun _ _ => ⟨rfl, e163, Nat.le_of_ble_eq_true rfl, Nat.le_of_ble_eq_true rfl⟩)
  dsimp only [Pt.U, Pt.locs, Pt.cells, Pt.slots] at X164 l164 y164 z164 st164 hQ164
  subst l164 y164 z164
  obtain ⟨rfl, N164q, hh164⟩ := hQ164
  refine own_seq st164 ?_
  have N164 := Fr.app N0 N164q
  show OwnGo p e below (T164.setTop (mkF m 7 #[.val (.long (0 : Int64)), .second, .unset, .unset, .unset, .unset, .unset, .unset, .unset, .unset, .unset, .unset, .unset, .unset] [(.long (0 : Int64))])) _
  refine own_back (fun t k => own_pop2 X164.here hx rfl (hb hby oed_d7) rfl k) ?_
  show OwnGo p e below (T164.setTop (mkF m 8 #[.val (.long (0 : Int64)), .second, .unset, .unset, .unset, .unset, .unset, .unset, .unset, .unset, .unset, .unset, .unset, .unset] [])) _
  refine own_back (fun t k => XS.lloadN X164.here hx rfl (hb hby oed_d8) rfl k) ?_
  show OwnGo p e below (T164.setTop (mkF m 9 #[.val (.long (0 : Int64)), .second, .unset, .unset, .unset, .unset, .unset, .unset, .unset, .unset, .unset, .unset, .unset, .unset] [(.long (0 : Int64))])) _
  refine own_back (fun t k => X164.ldc2Long hx hown (mvT hZ (hw _ (List.mem_of_getElem? (i := 177) rfl))) (g := (mkF m 9 #[.val (.long (0 : Int64)), .second, .unset, .unset, .unset, .unset, .unset, .unset, .unset, .unset, .unset, .unset, .unset, .unset] [(.long (0 : Int64))])) rfl (hb hby oed_d9) t k) ?_
  show OwnGo p e below (T164.setTop (mkF m 12 #[.val (.long (0 : Int64)), .second, .unset, .unset, .unset, .unset, .unset, .unset, .unset, .unset, .unset, .unset, .unset, .unset] [(.long (719528 : Int64)), (.long (0 : Int64))])) _
  refine own_back (fun t k => XS.ladd X164.here hx rfl (hb hby oed_d12) rfl k) ?_
  show OwnGo p e below (T164.setTop (mkF m 13 #[.val (.long (0 : Int64)), .second, .unset, .unset, .unset, .unset, .unset, .unset, .unset, .unset, .unset, .unset, .unset, .unset] [(.long ((0 : Int64) + (719528 : Int64)))])) _
  rw [show ((0 : Int64) + (719528 : Int64)) = (719528 : Int64) from by decide]
  show OwnGo p e below (T164.setTop (mkF m 13 #[.val (.long (0 : Int64)), .second, .unset, .unset, .unset, .unset, .unset, .unset, .unset, .unset, .unset, .unset, .unset, .unset] [(.long (719528 : Int64))])) _
  refine own_back (fun t k => XS.lstoreN X164.here hx rfl (hb hby oed_d13) rfl (l' := #[.val (.long (0 : Int64)), .second, .val (.long (719528 : Int64)), .second, .unset, .unset, .unset, .unset, .unset, .unset, .unset, .unset, .unset, .unset]) rfl k) ?_
  show OwnGo p e below (T164.setTop (mkF m 14 #[.val (.long (0 : Int64)), .second, .val (.long (719528 : Int64)), .second, .unset, .unset, .unset, .unset, .unset, .unset, .unset, .unset, .unset, .unset] [])) _
  refine own_back (fun t k => XS.lloadN X164.here hx rfl (hb hby oed_d14) rfl k) ?_
  show OwnGo p e below (T164.setTop (mkF m 15 #[.val (.long (0 : Int64)), .second, .val (.long (719528 : Int64)), .second, .unset, .unset, .unset, .unset, .unset, .unset, .unset, .unset, .unset, .unset] [(.long (719528 : Int64))])) _
  refine own_back (fun t k => X164.ldc2Long hx hown (mvT hZ (hw _ (List.mem_of_getElem? (i := 178) rfl))) (g := (mkF m 15 #[.val (.long (0 : Int64)), .second, .val (.long (719528 : Int64)), .second, .unset, .unset, .unset, .unset, .unset, .unset, .unset, .unset, .unset, .unset] [(.long (719528 : Int64))])) rfl (hb hby oed_d15) t k) ?_
  show OwnGo p e below (T164.setTop (mkF m 18 #[.val (.long (0 : Int64)), .second, .val (.long (719528 : Int64)), .second, .unset, .unset, .unset, .unset, .unset, .unset, .unset, .unset, .unset, .unset] [(.long (60 : Int64)), (.long (719528 : Int64))])) _
  refine own_back (fun t k => XS.lsub X164.here hx rfl (hb hby oed_d18) rfl k) ?_
  show OwnGo p e below (T164.setTop (mkF m 19 #[.val (.long (0 : Int64)), .second, .val (.long (719528 : Int64)), .second, .unset, .unset, .unset, .unset, .unset, .unset, .unset, .unset, .unset, .unset] [(.long ((719528 : Int64) - (60 : Int64)))])) _
  rw [show ((719528 : Int64) - (60 : Int64)) = (719468 : Int64) from by decide]
  show OwnGo p e below (T164.setTop (mkF m 19 #[.val (.long (0 : Int64)), .second, .val (.long (719528 : Int64)), .second, .unset, .unset, .unset, .unset, .unset, .unset, .unset, .unset, .unset, .unset] [(.long (719468 : Int64))])) _
  refine own_back (fun t k => XS.lstoreN X164.here hx rfl (hb hby oed_d19) rfl (l' := #[.val (.long (0 : Int64)), .second, .val (.long (719468 : Int64)), .second, .unset, .unset, .unset, .unset, .unset, .unset, .unset, .unset, .unset, .unset]) rfl k) ?_
  show OwnGo p e below (T164.setTop (mkF m 20 #[.val (.long (0 : Int64)), .second, .val (.long (719468 : Int64)), .second, .unset, .unset, .unset, .unset, .unset, .unset, .unset, .unset, .unset, .unset] [])) _
  refine own_back (fun t k => XS.lconst X164.here hx rfl (hb hby oed_d20) k) ?_
  show OwnGo p e below (T164.setTop (mkF m 21 #[.val (.long (0 : Int64)), .second, .val (.long (719468 : Int64)), .second, .unset, .unset, .unset, .unset, .unset, .unset, .unset, .unset, .unset, .unset] [(.long (0 : Int64))])) _
  refine own_back (fun t k => XS.lstore X164.here hx rfl (hb hby oed_d21) rfl (l' := #[.val (.long (0 : Int64)), .second, .val (.long (719468 : Int64)), .second, .val (.long (0 : Int64)), .second, .unset, .unset, .unset, .unset, .unset, .unset, .unset, .unset]) rfl k) ?_
  show OwnGo p e below (T164.setTop (mkF m 23 #[.val (.long (0 : Int64)), .second, .val (.long (719468 : Int64)), .second, .val (.long (0 : Int64)), .second, .unset, .unset, .unset, .unset, .unset, .unset, .unset, .unset] [])) _
  refine own_back (fun t k => XS.lloadN X164.here hx rfl (hb hby oed_d23) rfl k) ?_
  show OwnGo p e below (T164.setTop (mkF m 24 #[.val (.long (0 : Int64)), .second, .val (.long (719468 : Int64)), .second, .val (.long (0 : Int64)), .second, .unset, .unset, .unset, .unset, .unset, .unset, .unset, .unset] [(.long (719468 : Int64))])) _
  refine own_back (fun t k => XS.lconst X164.here hx rfl (hb hby oed_d24) k) ?_
  show OwnGo p e below (T164.setTop (mkF m 25 #[.val (.long (0 : Int64)), .second, .val (.long (719468 : Int64)), .second, .val (.long (0 : Int64)), .second, .unset, .unset, .unset, .unset, .unset, .unset, .unset, .unset] [(.long (0 : Int64)), (.long (719468 : Int64))])) _
  refine own_back (fun t k => XT.lcmp X164.here hx rfl (hb hby oed_d25) rfl k) ?_
  show OwnGo p e below (T164.setTop (mkF m 26 #[.val (.long (0 : Int64)), .second, .val (.long (719468 : Int64)), .second, .val (.long (0 : Int64)), .second, .unset, .unset, .unset, .unset, .unset, .unset, .unset, .unset] [(.int (XT.cmpL (719468 : Int64) (0 : Int64)))])) _
  refine own_back (fun t k => XS.ifYes X164.here hx rfl (pc0 := 26) (pc' := 58) rfl (hb hby oed_d26) rfl (Jvm.Free.XT.ll_ge_t (by decide)) (by decide) (by decide) k) ?_
  show OwnGo p e below (T164.setTop (mkF m 58 #[.val (.long (0 : Int64)), .second, .val (.long (719468 : Int64)), .second, .val (.long (0 : Int64)), .second, .unset, .unset, .unset, .unset, .unset, .unset, .unset, .unset] [])) _
  refine own_back (fun t k => X164.ldc2Long hx hown (mvT hZ (hw _ (List.mem_of_getElem? (i := 179) rfl))) (g := (mkF m 58 #[.val (.long (0 : Int64)), .second, .val (.long (719468 : Int64)), .second, .val (.long (0 : Int64)), .second, .unset, .unset, .unset, .unset, .unset, .unset, .unset, .unset] [])) rfl (hb hby oed_d58) t k) ?_
  show OwnGo p e below (T164.setTop (mkF m 61 #[.val (.long (0 : Int64)), .second, .val (.long (719468 : Int64)), .second, .val (.long (0 : Int64)), .second, .unset, .unset, .unset, .unset, .unset, .unset, .unset, .unset] [(.long (400 : Int64))])) _
  refine own_back (fun t k => XS.lloadN X164.here hx rfl (hb hby oed_d61) rfl k) ?_
  show OwnGo p e below (T164.setTop (mkF m 62 #[.val (.long (0 : Int64)), .second, .val (.long (719468 : Int64)), .second, .val (.long (0 : Int64)), .second, .unset, .unset, .unset, .unset, .unset, .unset, .unset, .unset] [(.long (719468 : Int64)), (.long (400 : Int64))])) _
  refine own_back (fun t k => XS.lmul X164.here hx rfl (hb hby oed_d62) rfl k) ?_
  show OwnGo p e below (T164.setTop (mkF m 63 #[.val (.long (0 : Int64)), .second, .val (.long (719468 : Int64)), .second, .val (.long (0 : Int64)), .second, .unset, .unset, .unset, .unset, .unset, .unset, .unset, .unset] [(.long ((400 : Int64) * (719468 : Int64)))])) _
  rw [show ((400 : Int64) * (719468 : Int64)) = (287787200 : Int64) from by decide]
  show OwnGo p e below (T164.setTop (mkF m 63 #[.val (.long (0 : Int64)), .second, .val (.long (719468 : Int64)), .second, .val (.long (0 : Int64)), .second, .unset, .unset, .unset, .unset, .unset, .unset, .unset, .unset] [(.long (287787200 : Int64))])) _
  refine own_back (fun t k => X164.ldc2Long hx hown (mvT hZ (hw _ (List.mem_of_getElem? (i := 180) rfl))) (g := (mkF m 63 #[.val (.long (0 : Int64)), .second, .val (.long (719468 : Int64)), .second, .val (.long (0 : Int64)), .second, .unset, .unset, .unset, .unset, .unset, .unset, .unset, .unset] [(.long (287787200 : Int64))])) rfl (hb hby oed_d63) t k) ?_
  show OwnGo p e below (T164.setTop (mkF m 66 #[.val (.long (0 : Int64)), .second, .val (.long (719468 : Int64)), .second, .val (.long (0 : Int64)), .second, .unset, .unset, .unset, .unset, .unset, .unset, .unset, .unset] [(.long (591 : Int64)), (.long (287787200 : Int64))])) _
  refine own_back (fun t k => XS.ladd X164.here hx rfl (hb hby oed_d66) rfl k) ?_
  show OwnGo p e below (T164.setTop (mkF m 67 #[.val (.long (0 : Int64)), .second, .val (.long (719468 : Int64)), .second, .val (.long (0 : Int64)), .second, .unset, .unset, .unset, .unset, .unset, .unset, .unset, .unset] [(.long ((287787200 : Int64) + (591 : Int64)))])) _
  rw [show ((287787200 : Int64) + (591 : Int64)) = (287787791 : Int64) from by decide]
  show OwnGo p e below (T164.setTop (mkF m 67 #[.val (.long (0 : Int64)), .second, .val (.long (719468 : Int64)), .second, .val (.long (0 : Int64)), .second, .unset, .unset, .unset, .unset, .unset, .unset, .unset, .unset] [(.long (287787791 : Int64))])) _
  refine own_back (fun t k => X164.ldc2Long hx hown (mvT hZ (hw _ (List.mem_of_getElem? (i := 181) rfl))) (g := (mkF m 67 #[.val (.long (0 : Int64)), .second, .val (.long (719468 : Int64)), .second, .val (.long (0 : Int64)), .second, .unset, .unset, .unset, .unset, .unset, .unset, .unset, .unset] [(.long (287787791 : Int64))])) rfl (hb hby oed_d67) t k) ?_
  show OwnGo p e below (T164.setTop (mkF m 70 #[.val (.long (0 : Int64)), .second, .val (.long (719468 : Int64)), .second, .val (.long (0 : Int64)), .second, .unset, .unset, .unset, .unset, .unset, .unset, .unset, .unset] [(.long (146097 : Int64)), (.long (287787791 : Int64))])) _
  refine own_back (fun t k => XS.ldiv X164.here hx rfl (hb hby oed_d70) rfl (by decide) k) ?_
  show OwnGo p e below (T164.setTop (mkF m 71 #[.val (.long (0 : Int64)), .second, .val (.long (719468 : Int64)), .second, .val (.long (0 : Int64)), .second, .unset, .unset, .unset, .unset, .unset, .unset, .unset, .unset] [(.long ((287787791 : Int64) / (146097 : Int64)))])) _
  rw [show ((287787791 : Int64) / (146097 : Int64)) = (1969 : Int64) from by decide]
  show OwnGo p e below (T164.setTop (mkF m 71 #[.val (.long (0 : Int64)), .second, .val (.long (719468 : Int64)), .second, .val (.long (0 : Int64)), .second, .unset, .unset, .unset, .unset, .unset, .unset, .unset, .unset] [(.long (1969 : Int64))])) _
  refine own_back (fun t k => XS.lstore X164.here hx rfl (hb hby oed_d71) rfl (l' := #[.val (.long (0 : Int64)), .second, .val (.long (719468 : Int64)), .second, .val (.long (0 : Int64)), .second, .val (.long (1969 : Int64)), .second, .unset, .unset, .unset, .unset, .unset, .unset]) rfl k) ?_
  show OwnGo p e below (T164.setTop (mkF m 73 #[.val (.long (0 : Int64)), .second, .val (.long (719468 : Int64)), .second, .val (.long (0 : Int64)), .second, .val (.long (1969 : Int64)), .second, .unset, .unset, .unset, .unset, .unset, .unset] [])) _
  refine own_back (fun t k => XS.lloadN X164.here hx rfl (hb hby oed_d73) rfl k) ?_
  show OwnGo p e below (T164.setTop (mkF m 74 #[.val (.long (0 : Int64)), .second, .val (.long (719468 : Int64)), .second, .val (.long (0 : Int64)), .second, .val (.long (1969 : Int64)), .second, .unset, .unset, .unset, .unset, .unset, .unset] [(.long (719468 : Int64))])) _
  refine own_back (fun t k => X164.ldc2Long hx hown (mvT hZ (hw _ (List.mem_of_getElem? (i := 182) rfl))) (g := (mkF m 74 #[.val (.long (0 : Int64)), .second, .val (.long (719468 : Int64)), .second, .val (.long (0 : Int64)), .second, .val (.long (1969 : Int64)), .second, .unset, .unset, .unset, .unset, .unset, .unset] [(.long (719468 : Int64))])) rfl (hb hby oed_d74) t k) ?_
  show OwnGo p e below (T164.setTop (mkF m 77 #[.val (.long (0 : Int64)), .second, .val (.long (719468 : Int64)), .second, .val (.long (0 : Int64)), .second, .val (.long (1969 : Int64)), .second, .unset, .unset, .unset, .unset, .unset, .unset] [(.long (365 : Int64)), (.long (719468 : Int64))])) _
  refine own_back (fun t k => XS.lload X164.here hx rfl (hb hby oed_d77) rfl k) ?_
  show OwnGo p e below (T164.setTop (mkF m 79 #[.val (.long (0 : Int64)), .second, .val (.long (719468 : Int64)), .second, .val (.long (0 : Int64)), .second, .val (.long (1969 : Int64)), .second, .unset, .unset, .unset, .unset, .unset, .unset] [(.long (1969 : Int64)), (.long (365 : Int64)), (.long (719468 : Int64))])) _
  refine own_back (fun t k => XS.lmul X164.here hx rfl (hb hby oed_d79) rfl k) ?_
  show OwnGo p e below (T164.setTop (mkF m 80 #[.val (.long (0 : Int64)), .second, .val (.long (719468 : Int64)), .second, .val (.long (0 : Int64)), .second, .val (.long (1969 : Int64)), .second, .unset, .unset, .unset, .unset, .unset, .unset] [(.long ((365 : Int64) * (1969 : Int64))), (.long (719468 : Int64))])) _
  rw [show ((365 : Int64) * (1969 : Int64)) = (718685 : Int64) from by decide]
  show OwnGo p e below (T164.setTop (mkF m 80 #[.val (.long (0 : Int64)), .second, .val (.long (719468 : Int64)), .second, .val (.long (0 : Int64)), .second, .val (.long (1969 : Int64)), .second, .unset, .unset, .unset, .unset, .unset, .unset] [(.long (718685 : Int64)), (.long (719468 : Int64))])) _
  refine own_back (fun t k => XS.lload X164.here hx rfl (hb hby oed_d80) rfl k) ?_
  show OwnGo p e below (T164.setTop (mkF m 82 #[.val (.long (0 : Int64)), .second, .val (.long (719468 : Int64)), .second, .val (.long (0 : Int64)), .second, .val (.long (1969 : Int64)), .second, .unset, .unset, .unset, .unset, .unset, .unset] [(.long (1969 : Int64)), (.long (718685 : Int64)), (.long (719468 : Int64))])) _
  refine own_back (fun t k => X164.ldc2Long hx hown (mvT hZ (hw _ (List.mem_of_getElem? (i := 183) rfl))) (g := (mkF m 82 #[.val (.long (0 : Int64)), .second, .val (.long (719468 : Int64)), .second, .val (.long (0 : Int64)), .second, .val (.long (1969 : Int64)), .second, .unset, .unset, .unset, .unset, .unset, .unset] [(.long (1969 : Int64)), (.long (718685 : Int64)), (.long (719468 : Int64))])) rfl (hb hby oed_d82) t k) ?_
  show OwnGo p e below (T164.setTop (mkF m 85 #[.val (.long (0 : Int64)), .second, .val (.long (719468 : Int64)), .second, .val (.long (0 : Int64)), .second, .val (.long (1969 : Int64)), .second, .unset, .unset, .unset, .unset, .unset, .unset] [(.long (4 : Int64)), (.long (1969 : Int64)), (.long (718685 : Int64)), (.long (719468 : Int64))])) _
  refine own_back (fun t k => XS.ldiv X164.here hx rfl (hb hby oed_d85) rfl (by decide) k) ?_
  show OwnGo p e below (T164.setTop (mkF m 86 #[.val (.long (0 : Int64)), .second, .val (.long (719468 : Int64)), .second, .val (.long (0 : Int64)), .second, .val (.long (1969 : Int64)), .second, .unset, .unset, .unset, .unset, .unset, .unset] [(.long ((1969 : Int64) / (4 : Int64))), (.long (718685 : Int64)), (.long (719468 : Int64))])) _
  rw [show ((1969 : Int64) / (4 : Int64)) = (492 : Int64) from by decide]
  show OwnGo p e below (T164.setTop (mkF m 86 #[.val (.long (0 : Int64)), .second, .val (.long (719468 : Int64)), .second, .val (.long (0 : Int64)), .second, .val (.long (1969 : Int64)), .second, .unset, .unset, .unset, .unset, .unset, .unset] [(.long (492 : Int64)), (.long (718685 : Int64)), (.long (719468 : Int64))])) _
  refine own_back (fun t k => XS.ladd X164.here hx rfl (hb hby oed_d86) rfl k) ?_
  show OwnGo p e below (T164.setTop (mkF m 87 #[.val (.long (0 : Int64)), .second, .val (.long (719468 : Int64)), .second, .val (.long (0 : Int64)), .second, .val (.long (1969 : Int64)), .second, .unset, .unset, .unset, .unset, .unset, .unset] [(.long ((718685 : Int64) + (492 : Int64))), (.long (719468 : Int64))])) _
  rw [show ((718685 : Int64) + (492 : Int64)) = (719177 : Int64) from by decide]
  show OwnGo p e below (T164.setTop (mkF m 87 #[.val (.long (0 : Int64)), .second, .val (.long (719468 : Int64)), .second, .val (.long (0 : Int64)), .second, .val (.long (1969 : Int64)), .second, .unset, .unset, .unset, .unset, .unset, .unset] [(.long (719177 : Int64)), (.long (719468 : Int64))])) _
  refine own_back (fun t k => XS.lload X164.here hx rfl (hb hby oed_d87) rfl k) ?_
  show OwnGo p e below (T164.setTop (mkF m 89 #[.val (.long (0 : Int64)), .second, .val (.long (719468 : Int64)), .second, .val (.long (0 : Int64)), .second, .val (.long (1969 : Int64)), .second, .unset, .unset, .unset, .unset, .unset, .unset] [(.long (1969 : Int64)), (.long (719177 : Int64)), (.long (719468 : Int64))])) _
  refine own_back (fun t k => X164.ldc2Long hx hown (mvT hZ (hw _ (List.mem_of_getElem? (i := 184) rfl))) (g := (mkF m 89 #[.val (.long (0 : Int64)), .second, .val (.long (719468 : Int64)), .second, .val (.long (0 : Int64)), .second, .val (.long (1969 : Int64)), .second, .unset, .unset, .unset, .unset, .unset, .unset] [(.long (1969 : Int64)), (.long (719177 : Int64)), (.long (719468 : Int64))])) rfl (hb hby oed_d89) t k) ?_
  show OwnGo p e below (T164.setTop (mkF m 92 #[.val (.long (0 : Int64)), .second, .val (.long (719468 : Int64)), .second, .val (.long (0 : Int64)), .second, .val (.long (1969 : Int64)), .second, .unset, .unset, .unset, .unset, .unset, .unset] [(.long (100 : Int64)), (.long (1969 : Int64)), (.long (719177 : Int64)), (.long (719468 : Int64))])) _
  refine own_back (fun t k => XS.ldiv X164.here hx rfl (hb hby oed_d92) rfl (by decide) k) ?_
  show OwnGo p e below (T164.setTop (mkF m 93 #[.val (.long (0 : Int64)), .second, .val (.long (719468 : Int64)), .second, .val (.long (0 : Int64)), .second, .val (.long (1969 : Int64)), .second, .unset, .unset, .unset, .unset, .unset, .unset] [(.long ((1969 : Int64) / (100 : Int64))), (.long (719177 : Int64)), (.long (719468 : Int64))])) _
  rw [show ((1969 : Int64) / (100 : Int64)) = (19 : Int64) from by decide]
  show OwnGo p e below (T164.setTop (mkF m 93 #[.val (.long (0 : Int64)), .second, .val (.long (719468 : Int64)), .second, .val (.long (0 : Int64)), .second, .val (.long (1969 : Int64)), .second, .unset, .unset, .unset, .unset, .unset, .unset] [(.long (19 : Int64)), (.long (719177 : Int64)), (.long (719468 : Int64))])) _
  refine own_back (fun t k => XS.lsub X164.here hx rfl (hb hby oed_d93) rfl k) ?_
  show OwnGo p e below (T164.setTop (mkF m 94 #[.val (.long (0 : Int64)), .second, .val (.long (719468 : Int64)), .second, .val (.long (0 : Int64)), .second, .val (.long (1969 : Int64)), .second, .unset, .unset, .unset, .unset, .unset, .unset] [(.long ((719177 : Int64) - (19 : Int64))), (.long (719468 : Int64))])) _
  rw [show ((719177 : Int64) - (19 : Int64)) = (719158 : Int64) from by decide]
  show OwnGo p e below (T164.setTop (mkF m 94 #[.val (.long (0 : Int64)), .second, .val (.long (719468 : Int64)), .second, .val (.long (0 : Int64)), .second, .val (.long (1969 : Int64)), .second, .unset, .unset, .unset, .unset, .unset, .unset] [(.long (719158 : Int64)), (.long (719468 : Int64))])) _
  refine own_back (fun t k => XS.lload X164.here hx rfl (hb hby oed_d94) rfl k) ?_
  show OwnGo p e below (T164.setTop (mkF m 96 #[.val (.long (0 : Int64)), .second, .val (.long (719468 : Int64)), .second, .val (.long (0 : Int64)), .second, .val (.long (1969 : Int64)), .second, .unset, .unset, .unset, .unset, .unset, .unset] [(.long (1969 : Int64)), (.long (719158 : Int64)), (.long (719468 : Int64))])) _
  refine own_back (fun t k => X164.ldc2Long hx hown (mvT hZ (hw _ (List.mem_of_getElem? (i := 179) rfl))) (g := (mkF m 96 #[.val (.long (0 : Int64)), .second, .val (.long (719468 : Int64)), .second, .val (.long (0 : Int64)), .second, .val (.long (1969 : Int64)), .second, .unset, .unset, .unset, .unset, .unset, .unset] [(.long (1969 : Int64)), (.long (719158 : Int64)), (.long (719468 : Int64))])) rfl (hb hby oed_d96) t k) ?_
  show OwnGo p e below (T164.setTop (mkF m 99 #[.val (.long (0 : Int64)), .second, .val (.long (719468 : Int64)), .second, .val (.long (0 : Int64)), .second, .val (.long (1969 : Int64)), .second, .unset, .unset, .unset, .unset, .unset, .unset] [(.long (400 : Int64)), (.long (1969 : Int64)), (.long (719158 : Int64)), (.long (719468 : Int64))])) _
  refine own_back (fun t k => XS.ldiv X164.here hx rfl (hb hby oed_d99) rfl (by decide) k) ?_
  show OwnGo p e below (T164.setTop (mkF m 100 #[.val (.long (0 : Int64)), .second, .val (.long (719468 : Int64)), .second, .val (.long (0 : Int64)), .second, .val (.long (1969 : Int64)), .second, .unset, .unset, .unset, .unset, .unset, .unset] [(.long ((1969 : Int64) / (400 : Int64))), (.long (719158 : Int64)), (.long (719468 : Int64))])) _
  rw [show ((1969 : Int64) / (400 : Int64)) = (4 : Int64) from by decide]
  show OwnGo p e below (T164.setTop (mkF m 100 #[.val (.long (0 : Int64)), .second, .val (.long (719468 : Int64)), .second, .val (.long (0 : Int64)), .second, .val (.long (1969 : Int64)), .second, .unset, .unset, .unset, .unset, .unset, .unset] [(.long (4 : Int64)), (.long (719158 : Int64)), (.long (719468 : Int64))])) _
  refine own_back (fun t k => XS.ladd X164.here hx rfl (hb hby oed_d100) rfl k) ?_
  show OwnGo p e below (T164.setTop (mkF m 101 #[.val (.long (0 : Int64)), .second, .val (.long (719468 : Int64)), .second, .val (.long (0 : Int64)), .second, .val (.long (1969 : Int64)), .second, .unset, .unset, .unset, .unset, .unset, .unset] [(.long ((719158 : Int64) + (4 : Int64))), (.long (719468 : Int64))])) _
  rw [show ((719158 : Int64) + (4 : Int64)) = (719162 : Int64) from by decide]
  show OwnGo p e below (T164.setTop (mkF m 101 #[.val (.long (0 : Int64)), .second, .val (.long (719468 : Int64)), .second, .val (.long (0 : Int64)), .second, .val (.long (1969 : Int64)), .second, .unset, .unset, .unset, .unset, .unset, .unset] [(.long (719162 : Int64)), (.long (719468 : Int64))])) _
  refine own_back (fun t k => XS.lsub X164.here hx rfl (hb hby oed_d101) rfl k) ?_
  show OwnGo p e below (T164.setTop (mkF m 102 #[.val (.long (0 : Int64)), .second, .val (.long (719468 : Int64)), .second, .val (.long (0 : Int64)), .second, .val (.long (1969 : Int64)), .second, .unset, .unset, .unset, .unset, .unset, .unset] [(.long ((719468 : Int64) - (719162 : Int64)))])) _
  rw [show ((719468 : Int64) - (719162 : Int64)) = (306 : Int64) from by decide]
  show OwnGo p e below (T164.setTop (mkF m 102 #[.val (.long (0 : Int64)), .second, .val (.long (719468 : Int64)), .second, .val (.long (0 : Int64)), .second, .val (.long (1969 : Int64)), .second, .unset, .unset, .unset, .unset, .unset, .unset] [(.long (306 : Int64))])) _
  refine own_back (fun t k => XS.lstore X164.here hx rfl (hb hby oed_d102) rfl (l' := #[.val (.long (0 : Int64)), .second, .val (.long (719468 : Int64)), .second, .val (.long (0 : Int64)), .second, .val (.long (1969 : Int64)), .second, .val (.long (306 : Int64)), .second, .unset, .unset, .unset, .unset]) rfl k) ?_
  show OwnGo p e below (T164.setTop (mkF m 104 #[.val (.long (0 : Int64)), .second, .val (.long (719468 : Int64)), .second, .val (.long (0 : Int64)), .second, .val (.long (1969 : Int64)), .second, .val (.long (306 : Int64)), .second, .unset, .unset, .unset, .unset] [])) _
  refine own_back (fun t k => XS.lload X164.here hx rfl (hb hby oed_d104) rfl k) ?_
  show OwnGo p e below (T164.setTop (mkF m 106 #[.val (.long (0 : Int64)), .second, .val (.long (719468 : Int64)), .second, .val (.long (0 : Int64)), .second, .val (.long (1969 : Int64)), .second, .val (.long (306 : Int64)), .second, .unset, .unset, .unset, .unset] [(.long (306 : Int64))])) _
  refine own_back (fun t k => XS.lconst X164.here hx rfl (hb hby oed_d106) k) ?_
  show OwnGo p e below (T164.setTop (mkF m 107 #[.val (.long (0 : Int64)), .second, .val (.long (719468 : Int64)), .second, .val (.long (0 : Int64)), .second, .val (.long (1969 : Int64)), .second, .val (.long (306 : Int64)), .second, .unset, .unset, .unset, .unset] [(.long (0 : Int64)), (.long (306 : Int64))])) _
  refine own_back (fun t k => XT.lcmp X164.here hx rfl (hb hby oed_d107) rfl k) ?_
  show OwnGo p e below (T164.setTop (mkF m 108 #[.val (.long (0 : Int64)), .second, .val (.long (719468 : Int64)), .second, .val (.long (0 : Int64)), .second, .val (.long (1969 : Int64)), .second, .val (.long (306 : Int64)), .second, .unset, .unset, .unset, .unset] [(.int (XT.cmpL (306 : Int64) (0 : Int64)))])) _
  refine own_back (fun t k => XS.ifYes X164.here hx rfl (pc0 := 108) (pc' := 148) rfl (hb hby oed_d108) rfl (Jvm.Free.XT.ll_ge_t (by decide)) (by decide) (by decide) k) ?_
  show OwnGo p e below (T164.setTop (mkF m 148 #[.val (.long (0 : Int64)), .second, .val (.long (719468 : Int64)), .second, .val (.long (0 : Int64)), .second, .val (.long (1969 : Int64)), .second, .val (.long (306 : Int64)), .second, .unset, .unset, .unset, .unset] [])) _
  refine own_back (fun t k => XS.lload X164.here hx rfl (hb hby oed_d148) rfl k) ?_
  show OwnGo p e below (T164.setTop (mkF m 150 #[.val (.long (0 : Int64)), .second, .val (.long (719468 : Int64)), .second, .val (.long (0 : Int64)), .second, .val (.long (1969 : Int64)), .second, .val (.long (306 : Int64)), .second, .unset, .unset, .unset, .unset] [(.long (1969 : Int64))])) _
  refine own_back (fun t k => XS.lload X164.here hx rfl (hb hby oed_d150) rfl k) ?_
  show OwnGo p e below (T164.setTop (mkF m 152 #[.val (.long (0 : Int64)), .second, .val (.long (719468 : Int64)), .second, .val (.long (0 : Int64)), .second, .val (.long (1969 : Int64)), .second, .val (.long (306 : Int64)), .second, .unset, .unset, .unset, .unset] [(.long (0 : Int64)), (.long (1969 : Int64))])) _
  refine own_back (fun t k => XS.ladd X164.here hx rfl (hb hby oed_d152) rfl k) ?_
  show OwnGo p e below (T164.setTop (mkF m 153 #[.val (.long (0 : Int64)), .second, .val (.long (719468 : Int64)), .second, .val (.long (0 : Int64)), .second, .val (.long (1969 : Int64)), .second, .val (.long (306 : Int64)), .second, .unset, .unset, .unset, .unset] [(.long ((1969 : Int64) + (0 : Int64)))])) _
  rw [show ((1969 : Int64) + (0 : Int64)) = (1969 : Int64) from by decide]
  show OwnGo p e below (T164.setTop (mkF m 153 #[.val (.long (0 : Int64)), .second, .val (.long (719468 : Int64)), .second, .val (.long (0 : Int64)), .second, .val (.long (1969 : Int64)), .second, .val (.long (306 : Int64)), .second, .unset, .unset, .unset, .unset] [(.long (1969 : Int64))])) _
  refine own_back (fun t k => XS.lstore X164.here hx rfl (hb hby oed_d153) rfl (l' := #[.val (.long (0 : Int64)), .second, .val (.long (719468 : Int64)), .second, .val (.long (0 : Int64)), .second, .val (.long (1969 : Int64)), .second, .val (.long (306 : Int64)), .second, .unset, .unset, .unset, .unset]) rfl k) ?_
  show OwnGo p e below (T164.setTop (mkF m 155 #[.val (.long (0 : Int64)), .second, .val (.long (719468 : Int64)), .second, .val (.long (0 : Int64)), .second, .val (.long (1969 : Int64)), .second, .val (.long (306 : Int64)), .second, .unset, .unset, .unset, .unset] [])) _
  refine own_back (fun t k => XS.lload X164.here hx rfl (hb hby oed_d155) rfl k) ?_
  show OwnGo p e below (T164.setTop (mkF m 157 #[.val (.long (0 : Int64)), .second, .val (.long (719468 : Int64)), .second, .val (.long (0 : Int64)), .second, .val (.long (1969 : Int64)), .second, .val (.long (306 : Int64)), .second, .unset, .unset, .unset, .unset] [(.long (306 : Int64))])) _
  refine own_back (fun t k => XS.l2i X164.here hx rfl (hb hby oed_d157) rfl k) ?_
  show OwnGo p e below (T164.setTop (mkF m 158 #[.val (.long (0 : Int64)), .second, .val (.long (719468 : Int64)), .second, .val (.long (0 : Int64)), .second, .val (.long (1969 : Int64)), .second, .val (.long (306 : Int64)), .second, .unset, .unset, .unset, .unset] [(.int (306 : Int64).toInt32)])) _
  rw [show (306 : Int64).toInt32 = (306 : Int32) from by decide]
  show OwnGo p e below (T164.setTop (mkF m 158 #[.val (.long (0 : Int64)), .second, .val (.long (719468 : Int64)), .second, .val (.long (0 : Int64)), .second, .val (.long (1969 : Int64)), .second, .val (.long (306 : Int64)), .second, .unset, .unset, .unset, .unset] [(.int (306 : Int32))])) _
  refine own_back (fun t k => XS.istore X164.here hx rfl (hb hby oed_d158) rfl (l' := #[.val (.long (0 : Int64)), .second, .val (.long (719468 : Int64)), .second, .val (.long (0 : Int64)), .second, .val (.long (1969 : Int64)), .second, .val (.long (306 : Int64)), .second, .val (.int (306 : Int32)), .unset, .unset, .unset]) rfl k) ?_
  show OwnGo p e below (T164.setTop (mkF m 160 #[.val (.long (0 : Int64)), .second, .val (.long (719468 : Int64)), .second, .val (.long (0 : Int64)), .second, .val (.long (1969 : Int64)), .second, .val (.long (306 : Int64)), .second, .val (.int (306 : Int32)), .unset, .unset, .unset] [])) _
  refine own_back (fun t k => XS.iload X164.here hx rfl (hb hby oed_d160) rfl k) ?_
  show OwnGo p e below (T164.setTop (mkF m 162 #[.val (.long (0 : Int64)), .second, .val (.long (719468 : Int64)), .second, .val (.long (0 : Int64)), .second, .val (.long (1969 : Int64)), .second, .val (.long (306 : Int64)), .second, .val (.int (306 : Int32)), .unset, .unset, .unset] [(.int (306 : Int32))])) _
  refine own_back (fun t k => XS.iconst X164.here hx rfl (hb hby oed_d162) k) ?_
  show OwnGo p e below (T164.setTop (mkF m 163 #[.val (.long (0 : Int64)), .second, .val (.long (719468 : Int64)), .second, .val (.long (0 : Int64)), .second, .val (.long (1969 : Int64)), .second, .val (.long (306 : Int64)), .second, .val (.int (306 : Int32)), .unset, .unset, .unset] [(.int (5 : Int32)), (.int (306 : Int32))])) _
  refine own_back (fun t k => XS.imul X164.here hx rfl (hb hby oed_d163) rfl k) ?_
  show OwnGo p e below (T164.setTop (mkF m 164 #[.val (.long (0 : Int64)), .second, .val (.long (719468 : Int64)), .second, .val (.long (0 : Int64)), .second, .val (.long (1969 : Int64)), .second, .val (.long (306 : Int64)), .second, .val (.int (306 : Int32)), .unset, .unset, .unset] [(.int ((306 : Int32) * (5 : Int32)))])) _
  rw [show ((306 : Int32) * (5 : Int32)) = (1530 : Int32) from by decide]
  show OwnGo p e below (T164.setTop (mkF m 164 #[.val (.long (0 : Int64)), .second, .val (.long (719468 : Int64)), .second, .val (.long (0 : Int64)), .second, .val (.long (1969 : Int64)), .second, .val (.long (306 : Int64)), .second, .val (.int (306 : Int32)), .unset, .unset, .unset] [(.int (1530 : Int32))])) _
  refine own_back (fun t k => XS.iconst X164.here hx rfl (hb hby oed_d164) k) ?_
  show OwnGo p e below (T164.setTop (mkF m 165 #[.val (.long (0 : Int64)), .second, .val (.long (719468 : Int64)), .second, .val (.long (0 : Int64)), .second, .val (.long (1969 : Int64)), .second, .val (.long (306 : Int64)), .second, .val (.int (306 : Int32)), .unset, .unset, .unset] [(.int (2 : Int32)), (.int (1530 : Int32))])) _
  refine own_back (fun t k => XS.iadd X164.here hx rfl (hb hby oed_d165) rfl k) ?_
  show OwnGo p e below (T164.setTop (mkF m 166 #[.val (.long (0 : Int64)), .second, .val (.long (719468 : Int64)), .second, .val (.long (0 : Int64)), .second, .val (.long (1969 : Int64)), .second, .val (.long (306 : Int64)), .second, .val (.int (306 : Int32)), .unset, .unset, .unset] [(.int ((1530 : Int32) + (2 : Int32)))])) _
  rw [show ((1530 : Int32) + (2 : Int32)) = (1532 : Int32) from by decide]
  show OwnGo p e below (T164.setTop (mkF m 166 #[.val (.long (0 : Int64)), .second, .val (.long (719468 : Int64)), .second, .val (.long (0 : Int64)), .second, .val (.long (1969 : Int64)), .second, .val (.long (306 : Int64)), .second, .val (.int (306 : Int32)), .unset, .unset, .unset] [(.int (1532 : Int32))])) _
  refine own_back (fun t k => XS.sipush X164.here hx rfl (hb hby oed_d166) k) ?_
  show OwnGo p e below (T164.setTop (mkF m 169 #[.val (.long (0 : Int64)), .second, .val (.long (719468 : Int64)), .second, .val (.long (0 : Int64)), .second, .val (.long (1969 : Int64)), .second, .val (.long (306 : Int64)), .second, .val (.int (306 : Int32)), .unset, .unset, .unset] [(.int (153 : Int32)), (.int (1532 : Int32))])) _
  refine own_back (fun t k => XS.idiv X164.here hx rfl (hb hby oed_d169) rfl (by decide) k) ?_
  show OwnGo p e below (T164.setTop (mkF m 170 #[.val (.long (0 : Int64)), .second, .val (.long (719468 : Int64)), .second, .val (.long (0 : Int64)), .second, .val (.long (1969 : Int64)), .second, .val (.long (306 : Int64)), .second, .val (.int (306 : Int32)), .unset, .unset, .unset] [(.int ((1532 : Int32) / (153 : Int32)))])) _
  rw [show ((1532 : Int32) / (153 : Int32)) = (10 : Int32) from by decide]
  show OwnGo p e below (T164.setTop (mkF m 170 #[.val (.long (0 : Int64)), .second, .val (.long (719468 : Int64)), .second, .val (.long (0 : Int64)), .second, .val (.long (1969 : Int64)), .second, .val (.long (306 : Int64)), .second, .val (.int (306 : Int32)), .unset, .unset, .unset] [(.int (10 : Int32))])) _
  refine own_back (fun t k => XS.istore X164.here hx rfl (hb hby oed_d170) rfl (l' := #[.val (.long (0 : Int64)), .second, .val (.long (719468 : Int64)), .second, .val (.long (0 : Int64)), .second, .val (.long (1969 : Int64)), .second, .val (.long (306 : Int64)), .second, .val (.int (306 : Int32)), .val (.int (10 : Int32)), .unset, .unset]) rfl k) ?_
  show OwnGo p e below (T164.setTop (mkF m 172 #[.val (.long (0 : Int64)), .second, .val (.long (719468 : Int64)), .second, .val (.long (0 : Int64)), .second, .val (.long (1969 : Int64)), .second, .val (.long (306 : Int64)), .second, .val (.int (306 : Int32)), .val (.int (10 : Int32)), .unset, .unset] [])) _
  refine own_back (fun t k => XS.iload X164.here hx rfl (hb hby oed_d172) rfl k) ?_
  show OwnGo p e below (T164.setTop (mkF m 174 #[.val (.long (0 : Int64)), .second, .val (.long (719468 : Int64)), .second, .val (.long (0 : Int64)), .second, .val (.long (1969 : Int64)), .second, .val (.long (306 : Int64)), .second, .val (.int (306 : Int32)), .val (.int (10 : Int32)), .unset, .unset] [(.int (10 : Int32))])) _
  refine own_back (fun t k => XS.iconst X164.here hx rfl (hb hby oed_d174) k) ?_
  show OwnGo p e below (T164.setTop (mkF m 175 #[.val (.long (0 : Int64)), .second, .val (.long (719468 : Int64)), .second, .val (.long (0 : Int64)), .second, .val (.long (1969 : Int64)), .second, .val (.long (306 : Int64)), .second, .val (.int (306 : Int32)), .val (.int (10 : Int32)), .unset, .unset] [(.int (3 : Int32)), (.int (10 : Int32))])) _
  refine own_back (fun t k => XS.iadd X164.here hx rfl (hb hby oed_d175) rfl k) ?_
  show OwnGo p e below (T164.setTop (mkF m 176 #[.val (.long (0 : Int64)), .second, .val (.long (719468 : Int64)), .second, .val (.long (0 : Int64)), .second, .val (.long (1969 : Int64)), .second, .val (.long (306 : Int64)), .second, .val (.int (306 : Int32)), .val (.int (10 : Int32)), .unset, .unset] [(.int ((10 : Int32) + (3 : Int32)))])) _
  rw [show ((10 : Int32) + (3 : Int32)) = (13 : Int32) from by decide]
  show OwnGo p e below (T164.setTop (mkF m 176 #[.val (.long (0 : Int64)), .second, .val (.long (719468 : Int64)), .second, .val (.long (0 : Int64)), .second, .val (.long (1969 : Int64)), .second, .val (.long (306 : Int64)), .second, .val (.int (306 : Int32)), .val (.int (10 : Int32)), .unset, .unset] [(.int (13 : Int32))])) _
  refine own_back (fun t k => XS.istore X164.here hx rfl (hb hby oed_d176) rfl (l' := #[.val (.long (0 : Int64)), .second, .val (.long (719468 : Int64)), .second, .val (.long (0 : Int64)), .second, .val (.long (1969 : Int64)), .second, .val (.long (306 : Int64)), .second, .val (.int (306 : Int32)), .val (.int (10 : Int32)), .val (.int (13 : Int32)), .unset]) rfl k) ?_
  show OwnGo p e below (T164.setTop (mkF m 178 #[.val (.long (0 : Int64)), .second, .val (.long (719468 : Int64)), .second, .val (.long (0 : Int64)), .second, .val (.long (1969 : Int64)), .second, .val (.long (306 : Int64)), .second, .val (.int (306 : Int32)), .val (.int (10 : Int32)), .val (.int (13 : Int32)), .unset] [])) _
  refine own_back (fun t k => XS.iload X164.here hx rfl (hb hby oed_d178) rfl k) ?_
  show OwnGo p e below (T164.setTop (mkF m 180 #[.val (.long (0 : Int64)), .second, .val (.long (719468 : Int64)), .second, .val (.long (0 : Int64)), .second, .val (.long (1969 : Int64)), .second, .val (.long (306 : Int64)), .second, .val (.int (306 : Int32)), .val (.int (10 : Int32)), .val (.int (13 : Int32)), .unset] [(.int (13 : Int32))])) _
  refine own_back (fun t k => XS.bipush X164.here hx rfl (hb hby oed_d180) k) ?_
  show OwnGo p e below (T164.setTop (mkF m 182 #[.val (.long (0 : Int64)), .second, .val (.long (719468 : Int64)), .second, .val (.long (0 : Int64)), .second, .val (.long (1969 : Int64)), .second, .val (.long (306 : Int64)), .second, .val (.int (306 : Int32)), .val (.int (10 : Int32)), .val (.int (13 : Int32)), .unset] [(.int (12 : Int32)), (.int (13 : Int32))])) _
  refine own_back (fun t k => XS.icmpNo X164.here hx rfl (hb hby oed_d182) rfl (Jvm.Free.XT.ii_le_f (by decide)) k) ?_
  show OwnGo p e below (T164.setTop (mkF m 185 #[.val (.long (0 : Int64)), .second, .val (.long (719468 : Int64)), .second, .val (.long (0 : Int64)), .second, .val (.long (1969 : Int64)), .second, .val (.long (306 : Int64)), .second, .val (.int (306 : Int32)), .val (.int (10 : Int32)), .val (.int (13 : Int32)), .unset] [])) _
  refine own_back (fun t k => XS.iinc X164.here hx rfl (hb hby oed_d185) rfl (l' := #[.val (.long (0 : Int64)), .second, .val (.long (719468 : Int64)), .second, .val (.long (0 : Int64)), .second, .val (.long (1969 : Int64)), .second, .val (.long (306 : Int64)), .second, .val (.int (306 : Int32)), .val (.int (10 : Int32)), .val (.int (1 : Int32)), .unset]) rfl k) ?_
  show OwnGo p e below (T164.setTop (mkF m 188 #[.val (.long (0 : Int64)), .second, .val (.long (719468 : Int64)), .second, .val (.long (0 : Int64)), .second, .val (.long (1969 : Int64)), .second, .val (.long (306 : Int64)), .second, .val (.int (306 : Int32)), .val (.int (10 : Int32)), .val (.int (1 : Int32)), .unset] [])) _
  refine own_back (fun t k => XS.iload X164.here hx rfl (hb hby oed_d188) rfl k) ?_
  show OwnGo p e below (T164.setTop (mkF m 190 #[.val (.long (0 : Int64)), .second, .val (.long (719468 : Int64)), .second, .val (.long (0 : Int64)), .second, .val (.long (1969 : Int64)), .second, .val (.long (306 : Int64)), .second, .val (.int (306 : Int32)), .val (.int (10 : Int32)), .val (.int (1 : Int32)), .unset] [(.int (306 : Int32))])) _
  refine own_back (fun t k => XS.iload X164.here hx rfl (hb hby oed_d190) rfl k) ?_
  show OwnGo p e below (T164.setTop (mkF m 192 #[.val (.long (0 : Int64)), .second, .val (.long (719468 : Int64)), .second, .val (.long (0 : Int64)), .second, .val (.long (1969 : Int64)), .second, .val (.long (306 : Int64)), .second, .val (.int (306 : Int32)), .val (.int (10 : Int32)), .val (.int (1 : Int32)), .unset] [(.int (10 : Int32)), (.int (306 : Int32))])) _
  refine own_back (fun t k => XS.sipush X164.here hx rfl (hb hby oed_d192) k) ?_
  show OwnGo p e below (T164.setTop (mkF m 195 #[.val (.long (0 : Int64)), .second, .val (.long (719468 : Int64)), .second, .val (.long (0 : Int64)), .second, .val (.long (1969 : Int64)), .second, .val (.long (306 : Int64)), .second, .val (.int (306 : Int32)), .val (.int (10 : Int32)), .val (.int (1 : Int32)), .unset] [(.int (306 : Int32)), (.int (10 : Int32)), (.int (306 : Int32))])) _
  refine own_back (fun t k => XS.imul X164.here hx rfl (hb hby oed_d195) rfl k) ?_
  show OwnGo p e below (T164.setTop (mkF m 196 #[.val (.long (0 : Int64)), .second, .val (.long (719468 : Int64)), .second, .val (.long (0 : Int64)), .second, .val (.long (1969 : Int64)), .second, .val (.long (306 : Int64)), .second, .val (.int (306 : Int32)), .val (.int (10 : Int32)), .val (.int (1 : Int32)), .unset] [(.int ((10 : Int32) * (306 : Int32))), (.int (306 : Int32))])) _
  rw [show ((10 : Int32) * (306 : Int32)) = (3060 : Int32) from by decide]
  show OwnGo p e below (T164.setTop (mkF m 196 #[.val (.long (0 : Int64)), .second, .val (.long (719468 : Int64)), .second, .val (.long (0 : Int64)), .second, .val (.long (1969 : Int64)), .second, .val (.long (306 : Int64)), .second, .val (.int (306 : Int32)), .val (.int (10 : Int32)), .val (.int (1 : Int32)), .unset] [(.int (3060 : Int32)), (.int (306 : Int32))])) _
  refine own_back (fun t k => XS.iconst X164.here hx rfl (hb hby oed_d196) k) ?_
  show OwnGo p e below (T164.setTop (mkF m 197 #[.val (.long (0 : Int64)), .second, .val (.long (719468 : Int64)), .second, .val (.long (0 : Int64)), .second, .val (.long (1969 : Int64)), .second, .val (.long (306 : Int64)), .second, .val (.int (306 : Int32)), .val (.int (10 : Int32)), .val (.int (1 : Int32)), .unset] [(.int (5 : Int32)), (.int (3060 : Int32)), (.int (306 : Int32))])) _
  refine own_back (fun t k => XS.iadd X164.here hx rfl (hb hby oed_d197) rfl k) ?_
  show OwnGo p e below (T164.setTop (mkF m 198 #[.val (.long (0 : Int64)), .second, .val (.long (719468 : Int64)), .second, .val (.long (0 : Int64)), .second, .val (.long (1969 : Int64)), .second, .val (.long (306 : Int64)), .second, .val (.int (306 : Int32)), .val (.int (10 : Int32)), .val (.int (1 : Int32)), .unset] [(.int ((3060 : Int32) + (5 : Int32))), (.int (306 : Int32))])) _
  rw [show ((3060 : Int32) + (5 : Int32)) = (3065 : Int32) from by decide]
  show OwnGo p e below (T164.setTop (mkF m 198 #[.val (.long (0 : Int64)), .second, .val (.long (719468 : Int64)), .second, .val (.long (0 : Int64)), .second, .val (.long (1969 : Int64)), .second, .val (.long (306 : Int64)), .second, .val (.int (306 : Int32)), .val (.int (10 : Int32)), .val (.int (1 : Int32)), .unset] [(.int (3065 : Int32)), (.int (306 : Int32))])) _
  refine own_back (fun t k => XS.bipush X164.here hx rfl (hb hby oed_d198) k) ?_
  show OwnGo p e below (T164.setTop (mkF m 200 #[.val (.long (0 : Int64)), .second, .val (.long (719468 : Int64)), .second, .val (.long (0 : Int64)), .second, .val (.long (1969 : Int64)), .second, .val (.long (306 : Int64)), .second, .val (.int (306 : Int32)), .val (.int (10 : Int32)), .val (.int (1 : Int32)), .unset] [(.int (10 : Int32)), (.int (3065 : Int32)), (.int (306 : Int32))])) _
  refine own_back (fun t k => XS.idiv X164.here hx rfl (hb hby oed_d200) rfl (by decide) k) ?_
  show OwnGo p e below (T164.setTop (mkF m 201 #[.val (.long (0 : Int64)), .second, .val (.long (719468 : Int64)), .second, .val (.long (0 : Int64)), .second, .val (.long (1969 : Int64)), .second, .val (.long (306 : Int64)), .second, .val (.int (306 : Int32)), .val (.int (10 : Int32)), .val (.int (1 : Int32)), .unset] [(.int ((3065 : Int32) / (10 : Int32))), (.int (306 : Int32))])) _
  rw [show ((3065 : Int32) / (10 : Int32)) = (306 : Int32) from by decide]
  show OwnGo p e below (T164.setTop (mkF m 201 #[.val (.long (0 : Int64)), .second, .val (.long (719468 : Int64)), .second, .val (.long (0 : Int64)), .second, .val (.long (1969 : Int64)), .second, .val (.long (306 : Int64)), .second, .val (.int (306 : Int32)), .val (.int (10 : Int32)), .val (.int (1 : Int32)), .unset] [(.int (306 : Int32)), (.int (306 : Int32))])) _
  refine own_back (fun t k => XS.isub X164.here hx rfl (hb hby oed_d201) rfl k) ?_
  show OwnGo p e below (T164.setTop (mkF m 202 #[.val (.long (0 : Int64)), .second, .val (.long (719468 : Int64)), .second, .val (.long (0 : Int64)), .second, .val (.long (1969 : Int64)), .second, .val (.long (306 : Int64)), .second, .val (.int (306 : Int32)), .val (.int (10 : Int32)), .val (.int (1 : Int32)), .unset] [(.int ((306 : Int32) - (306 : Int32)))])) _
  rw [show ((306 : Int32) - (306 : Int32)) = (0 : Int32) from by decide]
  show OwnGo p e below (T164.setTop (mkF m 202 #[.val (.long (0 : Int64)), .second, .val (.long (719468 : Int64)), .second, .val (.long (0 : Int64)), .second, .val (.long (1969 : Int64)), .second, .val (.long (306 : Int64)), .second, .val (.int (306 : Int32)), .val (.int (10 : Int32)), .val (.int (1 : Int32)), .unset] [(.int (0 : Int32))])) _
  refine own_back (fun t k => XS.iconst X164.here hx rfl (hb hby oed_d202) k) ?_
  show OwnGo p e below (T164.setTop (mkF m 203 #[.val (.long (0 : Int64)), .second, .val (.long (719468 : Int64)), .second, .val (.long (0 : Int64)), .second, .val (.long (1969 : Int64)), .second, .val (.long (306 : Int64)), .second, .val (.int (306 : Int32)), .val (.int (10 : Int32)), .val (.int (1 : Int32)), .unset] [(.int (1 : Int32)), (.int (0 : Int32))])) _
  refine own_back (fun t k => XS.iadd X164.here hx rfl (hb hby oed_d203) rfl k) ?_
  show OwnGo p e below (T164.setTop (mkF m 204 #[.val (.long (0 : Int64)), .second, .val (.long (719468 : Int64)), .second, .val (.long (0 : Int64)), .second, .val (.long (1969 : Int64)), .second, .val (.long (306 : Int64)), .second, .val (.int (306 : Int32)), .val (.int (10 : Int32)), .val (.int (1 : Int32)), .unset] [(.int ((0 : Int32) + (1 : Int32)))])) _
  rw [show ((0 : Int32) + (1 : Int32)) = (1 : Int32) from by decide]
  show OwnGo p e below (T164.setTop (mkF m 204 #[.val (.long (0 : Int64)), .second, .val (.long (719468 : Int64)), .second, .val (.long (0 : Int64)), .second, .val (.long (1969 : Int64)), .second, .val (.long (306 : Int64)), .second, .val (.int (306 : Int32)), .val (.int (10 : Int32)), .val (.int (1 : Int32)), .unset] [(.int (1 : Int32))])) _
  refine own_back (fun t k => XS.istore X164.here hx rfl (hb hby oed_d204) rfl (l' := #[.val (.long (0 : Int64)), .second, .val (.long (719468 : Int64)), .second, .val (.long (0 : Int64)), .second, .val (.long (1969 : Int64)), .second, .val (.long (306 : Int64)), .second, .val (.int (306 : Int32)), .val (.int (10 : Int32)), .val (.int (1 : Int32)), .val (.int (1 : Int32))]) rfl k) ?_
  show OwnGo p e below (T164.setTop (mkF m 206 #[.val (.long (0 : Int64)), .second, .val (.long (719468 : Int64)), .second, .val (.long (0 : Int64)), .second, .val (.long (1969 : Int64)), .second, .val (.long (306 : Int64)), .second, .val (.int (306 : Int32)), .val (.int (10 : Int32)), .val (.int (1 : Int32)), .val (.int (1 : Int32))] [])) _
  refine own_back (fun t k => XS.iload X164.here hx rfl (hb hby oed_d206) rfl k) ?_
  show OwnGo p e below (T164.setTop (mkF m 208 #[.val (.long (0 : Int64)), .second, .val (.long (719468 : Int64)), .second, .val (.long (0 : Int64)), .second, .val (.long (1969 : Int64)), .second, .val (.long (306 : Int64)), .second, .val (.int (306 : Int32)), .val (.int (10 : Int32)), .val (.int (1 : Int32)), .val (.int (1 : Int32))] [(.int (306 : Int32))])) _
  refine own_back (fun t k => XS.sipush X164.here hx rfl (hb hby oed_d208) k) ?_
  show OwnGo p e below (T164.setTop (mkF m 211 #[.val (.long (0 : Int64)), .second, .val (.long (719468 : Int64)), .second, .val (.long (0 : Int64)), .second, .val (.long (1969 : Int64)), .second, .val (.long (306 : Int64)), .second, .val (.int (306 : Int32)), .val (.int (10 : Int32)), .val (.int (1 : Int32)), .val (.int (1 : Int32))] [(.int (306 : Int32)), (.int (306 : Int32))])) _
  refine own_back (fun t k => XS.icmpNo X164.here hx rfl (hb hby oed_d211) rfl (Jvm.Free.XT.ii_lt_f (by decide)) k) ?_
  show OwnGo p e below (T164.setTop (mkF m 214 #[.val (.long (0 : Int64)), .second, .val (.long (719468 : Int64)), .second, .val (.long (0 : Int64)), .second, .val (.long (1969 : Int64)), .second, .val (.long (306 : Int64)), .second, .val (.int (306 : Int32)), .val (.int (10 : Int32)), .val (.int (1 : Int32)), .val (.int (1 : Int32))] [])) _
  refine own_back (fun t k => XS.lload X164.here hx rfl (hb hby oed_d214) rfl k) ?_
  show OwnGo p e below (T164.setTop (mkF m 216 #[.val (.long (0 : Int64)), .second, .val (.long (719468 : Int64)), .second, .val (.long (0 : Int64)), .second, .val (.long (1969 : Int64)), .second, .val (.long (306 : Int64)), .second, .val (.int (306 : Int32)), .val (.int (10 : Int32)), .val (.int (1 : Int32)), .val (.int (1 : Int32))] [(.long (1969 : Int64))])) _
  refine own_back (fun t k => XS.lconst X164.here hx rfl (hb hby oed_d216) k) ?_
  show OwnGo p e below (T164.setTop (mkF m 217 #[.val (.long (0 : Int64)), .second, .val (.long (719468 : Int64)), .second, .val (.long (0 : Int64)), .second, .val (.long (1969 : Int64)), .second, .val (.long (306 : Int64)), .second, .val (.int (306 : Int32)), .val (.int (10 : Int32)), .val (.int (1 : Int32)), .val (.int (1 : Int32))] [(.long (1 : Int64)), (.long (1969 : Int64))])) _
  refine own_back (fun t k => XS.ladd X164.here hx rfl (hb hby oed_d217) rfl k) ?_
  show OwnGo p e below (T164.setTop (mkF m 218 #[.val (.long (0 : Int64)), .second, .val (.long (719468 : Int64)), .second, .val (.long (0 : Int64)), .second, .val (.long (1969 : Int64)), .second, .val (.long (306 : Int64)), .second, .val (.int (306 : Int32)), .val (.int (10 : Int32)), .val (.int (1 : Int32)), .val (.int (1 : Int32))] [(.long ((1969 : Int64) + (1 : Int64)))])) _
  rw [show ((1969 : Int64) + (1 : Int64)) = (1970 : Int64) from by decide]
  show OwnGo p e below (T164.setTop (mkF m 218 #[.val (.long (0 : Int64)), .second, .val (.long (719468 : Int64)), .second, .val (.long (0 : Int64)), .second, .val (.long (1969 : Int64)), .second, .val (.long (306 : Int64)), .second, .val (.int (306 : Int32)), .val (.int (10 : Int32)), .val (.int (1 : Int32)), .val (.int (1 : Int32))] [(.long (1970 : Int64))])) _
  refine own_back (fun t k => XS.lstore X164.here hx rfl (hb hby oed_d218) rfl (l' := #[.val (.long (0 : Int64)), .second, .val (.long (719468 : Int64)), .second, .val (.long (0 : Int64)), .second, .val (.long (1970 : Int64)), .second, .val (.long (306 : Int64)), .second, .val (.int (306 : Int32)), .val (.int (10 : Int32)), .val (.int (1 : Int32)), .val (.int (1 : Int32))]) rfl k) ?_
  show OwnGo p e below (T164.setTop (mkF m 220 #[.val (.long (0 : Int64)), .second, .val (.long (719468 : Int64)), .second, .val (.long (0 : Int64)), .second, .val (.long (1970 : Int64)), .second, .val (.long (306 : Int64)), .second, .val (.int (306 : Int32)), .val (.int (10 : Int32)), .val (.int (1 : Int32)), .val (.int (1 : Int32))] [])) _
  obtain ⟨T165, h165, X165, e165, E165, A165, D165, -, st165⟩ := newO X164 hx hZ hown (hw _ (List.mem_of_getElem? (i := 185) rfl)) (hw _ (List.mem_of_getElem? (i := 186) rfl)) (hw _ (List.mem_of_getElem? (i := 136) rfl)) hh164 (g := (mkF m 220 #[.val (.long (0 : Int64)), .second, .val (.long (719468 : Int64)), .second, .val (.long (0 : Int64)), .second, .val (.long (1970 : Int64)), .second, .val (.long (306 : Int64)), .second, .val (.int (306 : Int32)), .val (.int (10 : Int32)), .val (.int (1 : Int32)), .val (.int (1 : Int32))] [])) rfl (hb hby oed_d220) (Nat.le_of_ble_eq_true rfl) (Nat.le_of_ble_eq_true rfl)
  obtain ⟨b165, g165⟩ : ∃ z, z = h0.size := ⟨_, rfl⟩
  have ge166 : n0 ≤ b165 := Nat.le_trans Z0 (Nat.le_of_eq g165.symm)
  have sz167 : h0.size ≤ b165 := Nat.le_trans KP0.1 (Nat.le_of_eq g165.symm)
  rw [← g165] at A165 D165 st165
  have O168 := OL.ext E165
  have KP169 := KP0.ext E165
  have Zs170 := Nat.le_trans Z0 E165.1
  have f171 := (EC.ext OL.2).ext E165
  have F172 : Fld Z h165 b165 "java/time/LocalDate" "year" "I" (.int (0 : Int32)) := D165 (Or.inr (hw _ (List.mem_of_getElem? (i := 193) rfl))) (ty := .int) (by decide)
  have F173 : Fld Z h165 b165 "java/time/LocalDate" "month" "S" (.int (0 : Int32)) := D165 (Or.inr (hw _ (List.mem_of_getElem? (i := 195) rfl))) (ty := .short) (by decide)
  have F174 : Fld Z h165 b165 "java/time/LocalDate" "day" "S" (.int (0 : Int32)) := D165 (Or.inr (hw _ (List.mem_of_getElem? (i := 197) rfl))) (ty := .short) (by decide)
  refine own_back st165 ?_
  show OwnGo p e below (T165.setTop (mkF m 223 #[.val (.long (0 : Int64)), .second, .val (.long (719468 : Int64)), .second, .val (.long (0 : Int64)), .second, .val (.long (1970 : Int64)), .second, .val (.long (306 : Int64)), .second, .val (.int (306 : Int32)), .val (.int (10 : Int32)), .val (.int (1 : Int32)), .val (.int (1 : Int32))] [(.ref b165)])) _
  refine own_back (fun t k => XS.dup X165.here hx rfl (hb hby oed_d223) rfl rfl k) ?_
  show OwnGo p e below (T165.setTop (mkF m 224 #[.val (.long (0 : Int64)), .second, .val (.long (719468 : Int64)), .second, .val (.long (0 : Int64)), .second, .val (.long (1970 : Int64)), .second, .val (.long (306 : Int64)), .second, .val (.int (306 : Int32)), .val (.int (10 : Int32)), .val (.int (1 : Int32)), .val (.int (1 : Int32))] [(.ref b165), (.ref b165)])) _
  refine own_back (fun t k => XS.lload X165.here hx rfl (hb hby oed_d224) rfl k) ?_
  show OwnGo p e below (T165.setTop (mkF m 226 #[.val (.long (0 : Int64)), .second, .val (.long (719468 : Int64)), .second, .val (.long (0 : Int64)), .second, .val (.long (1970 : Int64)), .second, .val (.long (306 : Int64)), .second, .val (.int (306 : Int32)), .val (.int (10 : Int32)), .val (.int (1 : Int32)), .val (.int (1 : Int32))] [(.long (1970 : Int64)), (.ref b165), (.ref b165)])) _
  refine own_back (fun t k => XS.l2i X165.here hx rfl (hb hby oed_d226) rfl k) ?_
  show OwnGo p e below (T165.setTop (mkF m 227 #[.val (.long (0 : Int64)), .second, .val (.long (719468 : Int64)), .second, .val (.long (0 : Int64)), .second, .val (.long (1970 : Int64)), .second, .val (.long (306 : Int64)), .second, .val (.int (306 : Int32)), .val (.int (10 : Int32)), .val (.int (1 : Int32)), .val (.int (1 : Int32))] [(.int (1970 : Int64).toInt32), (.ref b165), (.ref b165)])) _
  rw [show (1970 : Int64).toInt32 = (1970 : Int32) from by decide]
  show OwnGo p e below (T165.setTop (mkF m 227 #[.val (.long (0 : Int64)), .second, .val (.long (719468 : Int64)), .second, .val (.long (0 : Int64)), .second, .val (.long (1970 : Int64)), .second, .val (.long (306 : Int64)), .second, .val (.int (306 : Int32)), .val (.int (10 : Int32)), .val (.int (1 : Int32)), .val (.int (1 : Int32))] [(.int (1970 : Int32)), (.ref b165), (.ref b165)])) _
  refine own_back (fun t k => XS.iload X165.here hx rfl (hb hby oed_d227) rfl k) ?_
  show OwnGo p e below (T165.setTop (mkF m 229 #[.val (.long (0 : Int64)), .second, .val (.long (719468 : Int64)), .second, .val (.long (0 : Int64)), .second, .val (.long (1970 : Int64)), .second, .val (.long (306 : Int64)), .second, .val (.int (306 : Int32)), .val (.int (10 : Int32)), .val (.int (1 : Int32)), .val (.int (1 : Int32))] [(.int (1 : Int32)), (.int (1970 : Int32)), (.ref b165), (.ref b165)])) _
  refine own_back (fun t k => XS.iload X165.here hx rfl (hb hby oed_d229) rfl k) ?_
  show OwnGo p e below (T165.setTop (mkF m 231 #[.val (.long (0 : Int64)), .second, .val (.long (719468 : Int64)), .second, .val (.long (0 : Int64)), .second, .val (.long (1970 : Int64)), .second, .val (.long (306 : Int64)), .second, .val (.int (306 : Int32)), .val (.int (10 : Int32)), .val (.int (1 : Int32)), .val (.int (1 : Int32))] [(.int (1 : Int32)), (.int (1 : Int32)), (.int (1970 : Int32)), (.ref b165), (.ref b165)])) _
  obtain ⟨_, _, ⟨T175, L175, k175, n175⟩, -, X175, ⟨Lc175, hQ175, l175, y175, z175⟩, st175⟩ := X165.specialBack hx (y := (⟨"java/time/LocalDate", "<init>", "(III)V"⟩ : MethodName)) rfl hown (mvT hZ (hw _ (List.mem_of_getElem? (i := 187) rfl))) (mvT hZ (hw _ (List.mem_of_getElem? (i := 188) rfl))) (mvT hZ (hw _ (List.mem_of_getElem? (i := 190) rfl))) (by decide) (own_backN (W := 1) (rm_ldi l Z a0 hw [] b165 h165 n0 Zs170 O168 A165 F172 F173 F174 ge166) hZ (hw _ (List.mem_of_getElem? (i := 190) rfl)) (hw _ (List.mem_of_getElem? (i := 136) rfl)) (by decide) (by decide)) (g := (mkF m 231 #[.val (.long (0 : Int64)), .second, .val (.long (719468 : Int64)), .second, .val (.long (0 : Int64)), .second, .val (.long (1970 : Int64)), .second, .val (.long (306 : Int64)), .second, .val (.int (306 : Int32)), .val (.int (10 : Int32)), .val (.int (1 : Int32)), .val (.int (1 : Int32))] [(.int (1 : Int32)), (.int (1 : Int32)), (.int (1970 : Int32)), (.ref b165), (.ref b165)])) rfl (by rw [hml]; rfl) (Steps.refl _) (a := b165) (argsL := [(.int (1970 : Int32)), (.int (1 : Int32)), (.int (1 : Int32))]) (rest := [(.ref b165)]) (lenOf oed_pd1 rfl) rfl (by show 2 * 0 + _ ≤ _; exact Nat.le_of_eq rfl) (hb hby oed_d231) (fun _ _ => ⟨rfl, e165, Nat.le_of_ble_eq_true rfl, Nat.le_of_ble_eq_true rfl⟩)
  dsimp only [Pt.U, Pt.locs, Pt.cells, Pt.slots] at X175 l175 y175 z175 st175 hQ175
  subst l175 y175 z175
  obtain ⟨rfl, N175q, K175, Q175⟩ := hQ175
  refine own_seq st175 ?_
  have N175 := Fr.app N164 N175q
  have O176 := O168.keep K175 (allS ge166 all0)
  have KP177 := KP169.trans K175 (allS (Or.inr sz167) all0)
  have Zs178 := Nat.le_trans Zs170 K175.1
  have f179 := f171.keep K175
  have f180 := A165.keep K175
  show OwnGo p e below (T175.setTop (mkF m 234 #[.val (.long (0 : Int64)), .second, .val (.long (719468 : Int64)), .second, .val (.long (0 : Int64)), .second, .val (.long (1970 : Int64)), .second, .val (.long (306 : Int64)), .second, .val (.int (306 : Int32)), .val (.int (10 : Int32)), .val (.int (1 : Int32)), .val (.int (1 : Int32))] [(.ref b165)])) _
  refine own_retA X175 hx Bd.notSynchronized Bd.returns rfl rfl (hb hby oed_d234) rfl (Nat.le_of_ble_eq_true rfl) (Nat.le_of_ble_eq_true rfl) ?_
  exact ⟨_, rfl, N175, own_ext KP177, sz167, Q175⟩
def OwnBd (Z : State) (h : Heap) (a t : Addr) (us : List Int32) (n : Nat) : Prop := ∃ k : ClassId, Exa Z h a "java/lang/StringBuilder" ∧ Fld Z h a "java/lang/AbstractStringBuilder" "coder" "B" (.int 0) ∧ Fld Z h a "java/lang/AbstractStringBuilder" "value" "[B" (.ref t) ∧ Fld Z h a "java/lang/AbstractStringBuilder" "count" "I" (.int (Int32.ofNat n)) ∧ Arv Z h t k .byte (Int32.ofNat us.length) (us.map Value.int) (.int 0) ∧ Exa Z h t "[B" ∧ n ≤ us.length ∧ us.length ≤ 4000
theorem OwnBd.ext {Z : State} {h h' : Heap} {a t : Addr} {us : List Int32} {n : Nat} (E : Ext h h') (B : OwnBd Z h a t us n) : OwnBd Z h' a t us n := by
  obtain ⟨k, h1, h2, h3, h4, h5, h6, h7⟩ := B
  exact ⟨k, h1.ext E, h2.ext E, h3.ext E, h4.ext E, h5.ext E, h6.ext E, h7⟩
theorem eci_d0 : decode jdk_68_method_9_code 0 = .ok (.aload_n 0, 1) := by decide +kernel
theorem eci_d1 : decode jdk_68_method_9_code 1 = .ok (.getfield 15, 3) := by decide +kernel
theorem eci_d4 : decode jdk_68_method_9_code 4 = .ok (.arraylength, 1) := by decide +kernel
theorem eci_d5 : decode jdk_68_method_9_code 5 = .ok (.aload_n 0, 1) := by decide +kernel
theorem eci_d6 : decode jdk_68_method_9_code 6 = .ok (.getfield 22, 3) := by decide +kernel
theorem eci_d9 : decode jdk_68_method_9_code 9 = .ok (.ishr, 1) := by decide +kernel
theorem eci_d10 : decode jdk_68_method_9_code 10 = .ok (.istore_n 2, 1) := by decide +kernel
theorem eci_d11 : decode jdk_68_method_9_code 11 = .ok (.iload_n 1, 1) := by decide +kernel
theorem eci_d12 : decode jdk_68_method_9_code 12 = .ok (.iload_n 2, 1) := by decide +kernel
theorem eci_d13 : decode jdk_68_method_9_code 13 = .ok (.isub, 1) := by decide +kernel
theorem eci_d14 : decode jdk_68_method_9_code 14 = .ok (.ifCond .le 24, 3) := by decide +kernel
theorem eci_d38 : decode jdk_68_method_9_code 38 = .ok (.return_, 1) := by decide +kernel
theorem eci_pn : plainName "java/lang/AbstractStringBuilder" = true := by first | (simp [plainName, overriddenIn]; done) | decide +kernel
theorem eci_ef (m : MethodId) (x0 : Addr) (x1 : Int32) : entryFrame m #[(.ref x0), (.int x1)] 3 = mkF m 0 #[.val (.ref x0), .val (.int x1), .unset] [] := by first | (simp [entryFrame, mkF, argsToLocals, Value.category]; done) | rfl
set_option maxRecDepth 65536 in
set_option maxHeartbeats 40000000 in
theorem rm_eci (l : Launch) (Z : State) (a0 : Array Value) (hw : ∀ d ∈ tables_1, d.before a0 Z = true) (ws : List Jvm.Cond) (a1 : Addr) (t1 : Addr) (us : List Int32) (nn : Nat) (x : Nat) (h0 : Heap) (n0 : Nat) (Z0 : n0 ≤ h0.size) (B1 : OwnBd Z h0 a1 t1 us nn) (hx_ : x ≤ us.length) :
    MetFree l (⟨"java/lang/AbstractStringBuilder", "ensureCapacityInternal", "(I)V"⟩ : MethodName) (head1 (Jvm.Cond.code (⟨"java/lang/AbstractStringBuilder", "ensureCapacityInternal", "(I)V"⟩ : MethodName) jdk_68_method_9_code 3 none :: ws) ({ frames := 0, cells := 0, slots := 0, locals := 0 } : Room)) (fun a U => a = #[(.ref a1), (.int (Int32.ofNat x))] ∧ Z.Warmed39 U.vm ∧ U.heap = h0) (fun _ _ _ _ _ => True) (fun _ U o U' => OwnEnd U (fun v h L => v = none ∧ Fr n0 L ∧ h = h0) ({ frames := 0, cells := 0, slots := 0, locals := 0 } : Room).cells ({ frames := 0, cells := 0, slots := 0, locals := 0 } : Room).slots o U') := by
  refine MetFree.of_bodySF (plainFor_of_name eci_pn) hisR ?_
  intro p e s m args below meth c s₁ Bd hml0 hP hK
  obtain ⟨rfl, hZ, hh⟩ := hP
  have hx := Bd.exec
  have hby := Bd.bytes
  have hml : c.maxLocals = 3 := hml0
  have hown : s.vm.findClass "java/lang/AbstractStringBuilder" = some m.cls := findClass_of_methodNamed Bd.named
  have hnm := (name_of_methodNamed Bd.named Bd.method).1
  have X0 : Stand p l e ({ frames := 0, cells := 0, slots := 0, locals := 0 } : Room) s m #[(.ref a1), (.int (Int32.ofNat x))] below meth c s₁ [] 0 0 := Stand.of_body Bd
  have e0 : s₁.heap = h0 := by rw [← hh, Bd.state]; rfl
  have N0 := Fr.nil n0
  have KP0 := Keep.refl h0 []
  refine own_go (Q := (OwnEnd s (fun v h L => v = none ∧ Fr n0 L ∧ h = h0) ({ frames := 0, cells := 0, slots := 0, locals := 0 } : Room).cells ({ frames := 0, cells := 0, slots := 0, locals := 0 } : Room).slots)) ?_
  refine own_back (fun t k => castTop (eci_ef m a1 (Int32.ofNat x)) k) ?_
  show OwnGo p e below (s₁.setTop (mkF m 0 #[.val (.ref a1), .val (.int (Int32.ofNat x)), .unset] [])) _
  obtain ⟨k1, E1, C1, F1, N1, V1, X1, m1, m2⟩ := id B1
  refine own_back (fun t k => XS.aloadN X0.here hx rfl (hb hby eci_d0) rfl rfl k) ?_
  show OwnGo p e below (s₁.setTop (mkF m 1 #[.val (.ref a1), .val (.int (Int32.ofNat x)), .unset] [(.ref a1)])) _
  obtain ⟨T181, X181, e181, st181⟩ := getF X0 hx hZ hown (host := "") (Or.inl (hw _ (List.mem_of_getElem? (i := 75) rfl))) Via.refl e0 F1 (g := (mkF m 1 #[.val (.ref a1), .val (.int (Int32.ofNat x)), .unset] [(.ref a1)])) rfl rfl (hb hby eci_d1)
  refine own_back st181 ?_
  show OwnGo p e below (T181.setTop (mkF m 4 #[.val (.ref a1), .val (.int (Int32.ofNat x)), .unset] [(.ref t1)])) _
  obtain ⟨c182, A182, q182, S182, M182, H182, U182⟩ := id V1
  refine own_back (fun t k => X181.arraylength hx (own_hat e181 A182.1) (State.isArrayOf_alike hZ.alike A182.2.1) (g := (mkF m 4 #[.val (.ref a1), .val (.int (Int32.ofNat x)), .unset] [(.ref t1)])) rfl rfl (hb hby eci_d4) t k) ?_
  rw [len_of S182 M182]
  show OwnGo p e below (T181.setTop (mkF m 5 #[.val (.ref a1), .val (.int (Int32.ofNat x)), .unset] [(.int (Int32.ofNat us.length))])) _
  refine own_back (fun t k => XS.aloadN X181.here hx rfl (hb hby eci_d5) rfl rfl k) ?_
  show OwnGo p e below (T181.setTop (mkF m 6 #[.val (.ref a1), .val (.int (Int32.ofNat x)), .unset] [(.ref a1), (.int (Int32.ofNat us.length))])) _
  obtain ⟨T183, X183, e183, st183⟩ := getF X181 hx hZ hown (host := "") (Or.inl (hw _ (List.mem_of_getElem? (i := 77) rfl))) Via.refl e181 C1 (g := (mkF m 6 #[.val (.ref a1), .val (.int (Int32.ofNat x)), .unset] [(.ref a1), (.int (Int32.ofNat us.length))])) rfl rfl (hb hby eci_d6)
  refine own_back st183 ?_
  show OwnGo p e below (T183.setTop (mkF m 9 #[.val (.ref a1), .val (.int (Int32.ofNat x)), .unset] [(.int (0 : Int32)), (.int (Int32.ofNat us.length))])) _
  refine own_back (fun t k => XS.ishr X183.here hx rfl (hb hby eci_d9) rfl k) ?_
  show OwnGo p e below (T183.setTop (mkF m 10 #[.val (.ref a1), .val (.int (Int32.ofNat x)), .unset] [(.int ((Int32.ofNat us.length) >>> ((0 : Int32) &&& 31)))])) _
  rw [own_shr0]
  show OwnGo p e below (T183.setTop (mkF m 10 #[.val (.ref a1), .val (.int (Int32.ofNat x)), .unset] [(.int (Int32.ofNat us.length))])) _
  refine own_back (fun t k => XS.istoreN X183.here hx rfl (hb hby eci_d10) rfl (l' := #[.val (.ref a1), .val (.int (Int32.ofNat x)), .val (.int (Int32.ofNat us.length))]) rfl k) ?_
  show OwnGo p e below (T183.setTop (mkF m 11 #[.val (.ref a1), .val (.int (Int32.ofNat x)), .val (.int (Int32.ofNat us.length))] [])) _
  refine own_back (fun t k => XS.iloadN X183.here hx rfl (hb hby eci_d11) rfl k) ?_
  show OwnGo p e below (T183.setTop (mkF m 12 #[.val (.ref a1), .val (.int (Int32.ofNat x)), .val (.int (Int32.ofNat us.length))] [(.int (Int32.ofNat x))])) _
  refine own_back (fun t k => XS.iloadN X183.here hx rfl (hb hby eci_d12) rfl k) ?_
  show OwnGo p e below (T183.setTop (mkF m 13 #[.val (.ref a1), .val (.int (Int32.ofNat x)), .val (.int (Int32.ofNat us.length))] [(.int (Int32.ofNat us.length)), (.int (Int32.ofNat x))])) _
  refine own_back (fun t k => XS.isub X183.here hx rfl (hb hby eci_d13) rfl k) ?_
  show OwnGo p e below (T183.setTop (mkF m 14 #[.val (.ref a1), .val (.int (Int32.ofNat x)), .val (.int (Int32.ofNat us.length))] [(.int ((Int32.ofNat x) - (Int32.ofNat us.length)))])) _
  refine own_back (fun t k => XS.ifYes X183.here hx rfl (pc0 := 14) (pc' := 38) rfl (hb hby eci_d14) rfl (Jvm.Free.XT.i0_le_t (own_sub0 hx_ (by omega))) (by decide) (by decide) k) ?_
  show OwnGo p e below (T183.setTop (mkF m 38 #[.val (.ref a1), .val (.int (Int32.ofNat x)), .val (.int (Int32.ofNat us.length))] [])) _
  refine own_retV X183 hx Bd.notSynchronized Bd.returns (hb hby eci_d38) e183 (Nat.le_of_ble_eq_true rfl) (Nat.le_of_ble_eq_true rfl) ?_
  exact ⟨rfl, N0, rfl⟩
theorem inf_d0 : decode jdk_68_method_71_code 0 = .ok (.getstatic 18, 3) := by decide +kernel
theorem inf_d3 : decode jdk_68_method_71_code 3 = .ok (.ifCond .eq 18, 3) := by decide +kernel
theorem inf_d6 : decode jdk_68_method_71_code 6 = .ok (.aload_n 0, 1) := by decide +kernel
theorem inf_d7 : decode jdk_68_method_71_code 7 = .ok (.getfield 22, 3) := by decide +kernel
theorem inf_d10 : decode jdk_68_method_71_code 10 = .ok (.aload_n 1, 1) := by decide +kernel
theorem inf_d11 : decode jdk_68_method_71_code 11 = .ok (.invokevirtual 40, 3) := by decide +kernel
theorem inf_d14 : decode jdk_68_method_71_code 14 = .ok (.if_icmp .eq 7, 3) := by decide +kernel
theorem inf_d21 : decode jdk_68_method_71_code 21 = .ok (.return_, 1) := by decide +kernel
theorem inf_pn : plainName "java/lang/AbstractStringBuilder" = true := by first | (simp [plainName, overriddenIn]; done) | decide +kernel
theorem inf_pd0 : parseMethodDescriptor "()B" = some ⟨[], some .byte⟩ := by decide +kernel
theorem inf_ef (m : MethodId) (x0 : Addr) (x1 : Addr) : entryFrame m #[(.ref x0), (.ref x1)] 2 = mkF m 0 #[.val (.ref x0), .val (.ref x1)] [] := by first | (simp [entryFrame, mkF, argsToLocals, Value.category]; done) | rfl
set_option maxRecDepth 65536 in
set_option maxHeartbeats 40000000 in
theorem rm_inf (l : Launch) (Z : State) (a0 : Array Value) (hw : ∀ d ∈ tables_1, d.before a0 Z = true) (ws : List Jvm.Cond) (a1 : Addr) (t1 : Addr) (us : List Int32) (nn : Nat) (a2 : Addr) (ds : List Int32) (cz : Int32) (h0 : Heap) (n0 : Nat) (Z0 : n0 ≤ h0.size) (OL : Old Z n0 h0) (B1 : OwnBd Z h0 a1 t1 us nn) (B2 : OwnStr Z h0 a2 ds) (SC : Sta Z Z.heap "java/lang/String" "COMPACT_STRINGS" "Z" (.int cz)) (hcz : ¬ cz = 0) :
    MetFree l (⟨"java/lang/AbstractStringBuilder", "inflateIfNeededFor", "(Ljava/lang/String;)V"⟩ : MethodName) (head1 (Jvm.Cond.code (⟨"java/lang/AbstractStringBuilder", "inflateIfNeededFor", "(Ljava/lang/String;)V"⟩ : MethodName) jdk_68_method_71_code 2 none :: ws) ({ frames := 1, cells := 0, slots := 0, locals := 20 } : Room)) (fun a U => a = #[(.ref a1), (.ref a2)] ∧ Z.Warmed39 U.vm ∧ U.heap = h0) (fun _ _ _ _ _ => True) (fun _ U o U' => OwnEnd U (fun v h L => v = none ∧ Fr n0 L ∧ h = h0) ({ frames := 1, cells := 0, slots := 0, locals := 20 } : Room).cells ({ frames := 1, cells := 0, slots := 0, locals := 20 } : Room).slots o U') := by
  refine MetFree.of_bodySF (plainFor_of_name inf_pn) hisR ?_
  intro p e s m args below meth c s₁ Bd hml0 hP hK
  obtain ⟨rfl, hZ, hh⟩ := hP
  have hx := Bd.exec
  have hby := Bd.bytes
  have hml : c.maxLocals = 2 := hml0
  have hown : s.vm.findClass "java/lang/AbstractStringBuilder" = some m.cls := findClass_of_methodNamed Bd.named
  have hnm := (name_of_methodNamed Bd.named Bd.method).1
  have X0 : Stand p l e ({ frames := 1, cells := 0, slots := 0, locals := 20 } : Room) s m #[(.ref a1), (.ref a2)] below meth c s₁ [] 0 0 := Stand.of_body Bd
  have e0 : s₁.heap = h0 := by rw [← hh, Bd.state]; rfl
  have N0 := Fr.nil n0
  have KP0 := Keep.refl h0 []
  refine own_go (Q := (OwnEnd s (fun v h L => v = none ∧ Fr n0 L ∧ h = h0) ({ frames := 1, cells := 0, slots := 0, locals := 20 } : Room).cells ({ frames := 1, cells := 0, slots := 0, locals := 20 } : Room).slots)) ?_
  refine own_back (fun t k => castTop (inf_ef m a1 a2) k) ?_
  show OwnGo p e below (s₁.setTop (mkF m 0 #[.val (.ref a1), .val (.ref a2)] [])) _
  obtain ⟨k1, E1, C1, F1, N1, V1, X1, m1, m2⟩ := id B1
  obtain ⟨t2, k2, E2, C2, F2, V2, m3⟩ := id B2
  obtain ⟨T184, X184, e184, st184⟩ := getS2 X0 hx hZ hown (host := "") (Or.inl (hw _ (List.mem_of_getElem? (i := 74) rfl))) Via.refl e0 (SC.ext OL.2) (g := (mkF m 0 #[.val (.ref a1), .val (.ref a2)] [])) rfl (hb hby inf_d0)
  refine own_back st184 ?_
  show OwnGo p e below (T184.setTop (mkF m 3 #[.val (.ref a1), .val (.ref a2)] [(.int cz)])) _
  refine own_back (fun t k => XS.ifNo X184.here hx rfl (hb hby inf_d3) rfl (Jvm.Free.XT.i0_eq_f hcz) k) ?_
  show OwnGo p e below (T184.setTop (mkF m 6 #[.val (.ref a1), .val (.ref a2)] [])) _
  refine own_back (fun t k => XS.aloadN X184.here hx rfl (hb hby inf_d6) rfl rfl k) ?_
  show OwnGo p e below (T184.setTop (mkF m 7 #[.val (.ref a1), .val (.ref a2)] [(.ref a1)])) _
  obtain ⟨T185, X185, e185, st185⟩ := getF X184 hx hZ hown (host := "") (Or.inl (hw _ (List.mem_of_getElem? (i := 77) rfl))) Via.refl e184 C1 (g := (mkF m 7 #[.val (.ref a1), .val (.ref a2)] [(.ref a1)])) rfl rfl (hb hby inf_d7)
  refine own_back st185 ?_
  show OwnGo p e below (T185.setTop (mkF m 10 #[.val (.ref a1), .val (.ref a2)] [(.int (0 : Int32))])) _
  refine own_back (fun t k => XS.aloadN X185.here hx rfl (hb hby inf_d10) rfl rfl k) ?_
  show OwnGo p e below (T185.setTop (mkF m 11 #[.val (.ref a1), .val (.ref a2)] [(.ref a2), (.int (0 : Int32))])) _
  obtain ⟨cq186, kq186, q186a, q186b, q186c⟩ := isOf hZ e185 E2
  obtain ⟨_, _, ⟨T186, L186, k186, n186⟩, -, X186, ⟨Lc186, hQ186, l186, y186, z186⟩, st186⟩ := X185.virtualBack hx (y := (⟨"java/lang/String", "coder", "()B"⟩ : MethodName)) (z := (⟨"java/lang/String", "coder", "()B"⟩ : MethodName)) hown (mvT hZ (hw _ (List.mem_of_getElem? (i := 119) rfl))) (mvT hZ (hw _ (List.mem_of_getElem? (i := 96) rfl))) (notFace_of_selects (args := #[]) (mvT hZ (hw _ (List.mem_of_getElem? (i := 98) rfl)))) (mvT hZ (hw _ (List.mem_of_getElem? (i := 98) rfl))) (mvT hZ (hw _ (List.mem_of_getElem? (i := 97) rfl))) (by decide) (own_backN (W := 1) (rm_cod l Z a0 hw [] a2 cz h0 n0 Z0 OL C2 SC hcz) hZ (hw _ (List.mem_of_getElem? (i := 99) rfl)) (hw _ (List.mem_of_getElem? (i := 10) rfl)) (by decide) (by decide)) q186a q186c (g := (mkF m 11 #[.val (.ref a1), .val (.ref a2)] [(.ref a2), (.int (0 : Int32))])) rfl (by rw [hml]; rfl) (Steps.refl _) (argsL := []) (rest := [(.int (0 : Int32))]) (lenOf inf_pd0 rfl) rfl (by show 2 * 0 + _ ≤ _; exact Nat.le_of_eq rfl) (hb hby inf_d11) (fun _ _ => ⟨rfl, e185, Nat.le_of_ble_eq_true rfl, Nat.le_of_ble_eq_true rfl⟩)
  dsimp only [Pt.U, Pt.locs, Pt.cells, Pt.slots] at X186 l186 y186 z186 st186 hQ186
  subst l186 y186 z186
  obtain ⟨rfl, N186q, hh186⟩ := hQ186
  refine own_seq st186 ?_
  have N186 := Fr.app N0 N186q
  show OwnGo p e below (T186.setTop (mkF m 14 #[.val (.ref a1), .val (.ref a2)] [(.int (0 : Int32)), (.int (0 : Int32))])) _
  refine own_back (fun t k => XS.icmpYes X186.here hx rfl (pc0 := 14) (pc' := 21) rfl (hb hby inf_d14) rfl (Jvm.Free.XT.ii_eq_t (by decide)) (by decide) (by decide) k) ?_
  show OwnGo p e below (T186.setTop (mkF m 21 #[.val (.ref a1), .val (.ref a2)] [])) _
  refine own_retV X186 hx Bd.notSynchronized Bd.returns (hb hby inf_d21) hh186 (Nat.le_of_ble_eq_true rfl) (Nat.le_of_ble_eq_true rfl) ?_
  exact ⟨rfl, N186, rfl⟩
theorem own_len_pad {Z : State} {h : Heap} {t : Addr} {k : ClassId} {us us' : List Int32} {d : Value} (e : us'.length = us.length) (A : Arv Z h t k .byte (Int32.ofNat us.length) (us'.map Value.int) d) : Arv Z h t k .byte (Int32.ofNat us'.length) (us'.map Value.int) d := by rw [e]; exact A
theorem gbb_d0 : decode jdk_42_method_147_code 0 = .ok (.aload_n 0, 1) := by decide +kernel
theorem gbb_d1 : decode jdk_42_method_147_code 1 = .ok (.invokevirtual 335, 3) := by decide +kernel
theorem gbb_d4 : decode jdk_42_method_147_code 4 = .ok (.iload_n 3, 1) := by decide +kernel
theorem gbb_d5 : decode jdk_42_method_147_code 5 = .ok (.if_icmp .ne 23, 3) := by decide +kernel
theorem gbb_d8 : decode jdk_42_method_147_code 8 = .ok (.aload_n 0, 1) := by decide +kernel
theorem gbb_d9 : decode jdk_42_method_147_code 9 = .ok (.getfield 9, 3) := by decide +kernel
theorem gbb_d12 : decode jdk_42_method_147_code 12 = .ok (.iconst 0, 1) := by decide +kernel
theorem gbb_d13 : decode jdk_42_method_147_code 13 = .ok (.aload_n 1, 1) := by decide +kernel
theorem gbb_d14 : decode jdk_42_method_147_code 14 = .ok (.iload_n 2, 1) := by decide +kernel
theorem gbb_d15 : decode jdk_42_method_147_code 15 = .ok (.iload_n 3, 1) := by decide +kernel
theorem gbb_d16 : decode jdk_42_method_147_code 16 = .ok (.ishl, 1) := by decide +kernel
theorem gbb_d17 : decode jdk_42_method_147_code 17 = .ok (.aload_n 0, 1) := by decide +kernel
theorem gbb_d18 : decode jdk_42_method_147_code 18 = .ok (.getfield 9, 3) := by decide +kernel
theorem gbb_d21 : decode jdk_42_method_147_code 21 = .ok (.arraylength, 1) := by decide +kernel
theorem gbb_d22 : decode jdk_42_method_147_code 22 = .ok (.invokestatic 212, 3) := by decide +kernel
theorem gbb_d25 : decode jdk_42_method_147_code 25 = .ok (.goto 18, 3) := by decide +kernel
theorem gbb_d43 : decode jdk_42_method_147_code 43 = .ok (.return_, 1) := by decide +kernel
theorem gbb_pn : plainName "java/lang/String" = true := by first | (simp [plainName, overriddenIn]; done) | decide +kernel
theorem gbb_pd0 : parseMethodDescriptor "()B" = some ⟨[], some .byte⟩ := by decide +kernel
theorem gbb_ef (m : MethodId) (x0 : Addr) (x1 : Addr) (x2 : Int32) (x3 : Int32) : entryFrame m #[(.ref x0), (.ref x1), (.int x2), (.int x3)] 4 = mkF m 0 #[.val (.ref x0), .val (.ref x1), .val (.int x2), .val (.int x3)] [] := by first | (simp [entryFrame, mkF, argsToLocals, Value.category]; done) | rfl
set_option maxRecDepth 65536 in
set_option maxHeartbeats 40000000 in
theorem rm_gbb (l : Launch) (Z : State) (a0 : Array Value) (hw : ∀ d ∈ tables_1, d.before a0 Z = true) (ws : List Jvm.Cond) (t1 : Addr) (k1 : ClassId) (us : List Int32) (nn : Nat) (a2 : Addr) (ds : List Int32) (cz : Int32) (h0 : Heap) (n0 : Nat) (Z0 : n0 ≤ h0.size) (OL : Old Z n0 h0) (V1 : Arv Z h0 t1 k1 .byte (Int32.ofNat us.length) (us.map Value.int) (.int 0)) (m2 : us.length ≤ 4000) (g1 : n0 ≤ t1) (hn_ : nn + ds.length ≤ us.length) (B2 : OwnStr Z h0 a2 ds) (SC : Sta Z Z.heap "java/lang/String" "COMPACT_STRINGS" "Z" (.int cz)) (hcz : ¬ cz = 0) :
    MetFree l (⟨"java/lang/String", "getBytes", "([BIB)V"⟩ : MethodName) (head1 (Jvm.Cond.code (⟨"java/lang/String", "getBytes", "([BIB)V"⟩ : MethodName) jdk_42_method_147_code 4 none :: ws) ({ frames := 1, cells := 0, slots := 0, locals := 60 } : Room)) (fun a U => a = #[(.ref a2), (.ref t1), (.int (Int32.ofNat nn)), (.int (0 : Int32))] ∧ Z.Warmed39 U.vm ∧ U.heap = h0) (fun _ _ _ _ _ => True) (fun _ U o U' => OwnEnd U (fun v h L => v = none ∧ Fr n0 L ∧ Keep h0 h [t1] ∧ Arv Z h t1 k1 .byte (Int32.ofNat (us.take nn ++ ds ++ us.drop (nn + ds.length)).length) ((us.take nn ++ ds ++ us.drop (nn + ds.length)).map Value.int) (.int 0)) ({ frames := 1, cells := 0, slots := 0, locals := 60 } : Room).cells ({ frames := 1, cells := 0, slots := 0, locals := 60 } : Room).slots o U') := by
  refine MetFree.of_bodySF (plainFor_of_name gbb_pn) hisR ?_
  intro p e s m args below meth c s₁ Bd hml0 hP hK
  obtain ⟨rfl, hZ, hh⟩ := hP
  have hx := Bd.exec
  have hby := Bd.bytes
  have hml : c.maxLocals = 4 := hml0
  have hown : s.vm.findClass "java/lang/String" = some m.cls := findClass_of_methodNamed Bd.named
  have hnm := (name_of_methodNamed Bd.named Bd.method).1
  have X0 : Stand p l e ({ frames := 1, cells := 0, slots := 0, locals := 60 } : Room) s m #[(.ref a2), (.ref t1), (.int (Int32.ofNat nn)), (.int (0 : Int32))] below meth c s₁ [] 0 0 := Stand.of_body Bd
  have e0 : s₁.heap = h0 := by rw [← hh, Bd.state]; rfl
  have N0 := Fr.nil n0
  have KP0 := Keep.refl h0 [t1]
  refine own_go (Q := (OwnEnd s (fun v h L => v = none ∧ Fr n0 L ∧ Keep h0 h [t1] ∧ Arv Z h t1 k1 .byte (Int32.ofNat (us.take nn ++ ds ++ us.drop (nn + ds.length)).length) ((us.take nn ++ ds ++ us.drop (nn + ds.length)).map Value.int) (.int 0)) ({ frames := 1, cells := 0, slots := 0, locals := 60 } : Room).cells ({ frames := 1, cells := 0, slots := 0, locals := 60 } : Room).slots)) ?_
  refine own_back (fun t k => castTop (gbb_ef m a2 t1 (Int32.ofNat nn) (0 : Int32)) k) ?_
  show OwnGo p e below (s₁.setTop (mkF m 0 #[.val (.ref a2), .val (.ref t1), .val (.int (Int32.ofNat nn)), .val (.int (0 : Int32))] [])) _
  obtain ⟨t2, k2, E2, C2, F2, V2, m3⟩ := id B2
  refine own_back (fun t k => XS.aloadN X0.here hx rfl (hb hby gbb_d0) rfl rfl k) ?_
  show OwnGo p e below (s₁.setTop (mkF m 1 #[.val (.ref a2), .val (.ref t1), .val (.int (Int32.ofNat nn)), .val (.int (0 : Int32))] [(.ref a2)])) _
  obtain ⟨cq187, kq187, q187a, q187b, q187c⟩ := isOf hZ e0 E2
  obtain ⟨_, _, ⟨T187, L187, k187, n187⟩, -, X187, ⟨Lc187, hQ187, l187, y187, z187⟩, st187⟩ := X0.virtualBack hx (y := (⟨"java/lang/String", "coder", "()B"⟩ : MethodName)) (z := (⟨"java/lang/String", "coder", "()B"⟩ : MethodName)) hown (mvT hZ (hw _ (List.mem_of_getElem? (i := 95) rfl))) (mvT hZ (hw _ (List.mem_of_getElem? (i := 96) rfl))) (notFace_of_selects (args := #[]) (mvT hZ (hw _ (List.mem_of_getElem? (i := 98) rfl)))) (mvT hZ (hw _ (List.mem_of_getElem? (i := 98) rfl))) (mvT hZ (hw _ (List.mem_of_getElem? (i := 97) rfl))) (by decide) (own_backN (W := 0) (rm_cod l Z a0 hw [] a2 cz h0 n0 Z0 OL C2 SC hcz) hZ (hw _ (List.mem_of_getElem? (i := 99) rfl)) (hw _ (List.mem_of_getElem? (i := 10) rfl)) (by decide) (by decide)) q187a q187c (g := (mkF m 1 #[.val (.ref a2), .val (.ref t1), .val (.int (Int32.ofNat nn)), .val (.int (0 : Int32))] [(.ref a2)])) rfl (by rw [hml]; rfl) (Steps.refl _) (argsL := []) (rest := []) (lenOf gbb_pd0 rfl) rfl (by show 2 * 0 + _ ≤ _; exact Nat.le_of_eq rfl) (hb hby gbb_d1) (fun _ _ => ⟨rfl, e0, Nat.le_of_ble_eq_true rfl, Nat.le_of_ble_eq_true rfl⟩)
  dsimp only [Pt.U, Pt.locs, Pt.cells, Pt.slots] at X187 l187 y187 z187 st187 hQ187
  subst l187 y187 z187
  obtain ⟨rfl, N187q, hh187⟩ := hQ187
  refine own_seq st187 ?_
  have N187 := Fr.app N0 N187q
  show OwnGo p e below (T187.setTop (mkF m 4 #[.val (.ref a2), .val (.ref t1), .val (.int (Int32.ofNat nn)), .val (.int (0 : Int32))] [(.int (0 : Int32))])) _
  refine own_back (fun t k => XS.iloadN X187.here hx rfl (hb hby gbb_d4) rfl k) ?_
  show OwnGo p e below (T187.setTop (mkF m 5 #[.val (.ref a2), .val (.ref t1), .val (.int (Int32.ofNat nn)), .val (.int (0 : Int32))] [(.int (0 : Int32)), (.int (0 : Int32))])) _
  refine own_back (fun t k => XS.icmpNo X187.here hx rfl (hb hby gbb_d5) rfl (Jvm.Free.XT.ii_ne_f (by decide)) k) ?_
  show OwnGo p e below (T187.setTop (mkF m 8 #[.val (.ref a2), .val (.ref t1), .val (.int (Int32.ofNat nn)), .val (.int (0 : Int32))] [])) _
  refine own_back (fun t k => XS.aloadN X187.here hx rfl (hb hby gbb_d8) rfl rfl k) ?_
  show OwnGo p e below (T187.setTop (mkF m 9 #[.val (.ref a2), .val (.ref t1), .val (.int (Int32.ofNat nn)), .val (.int (0 : Int32))] [(.ref a2)])) _
  obtain ⟨T188, X188, e188, st188⟩ := getF X187 hx hZ hown (host := "") (Or.inl (hw _ (List.mem_of_getElem? (i := 94) rfl))) Via.refl hh187 F2 (g := (mkF m 9 #[.val (.ref a2), .val (.ref t1), .val (.int (Int32.ofNat nn)), .val (.int (0 : Int32))] [(.ref a2)])) rfl rfl (hb hby gbb_d9)
  refine own_back st188 ?_
  show OwnGo p e below (T188.setTop (mkF m 12 #[.val (.ref a2), .val (.ref t1), .val (.int (Int32.ofNat nn)), .val (.int (0 : Int32))] [(.ref t2)])) _
  refine own_back (fun t k => XS.iconst X188.here hx rfl (hb hby gbb_d12) k) ?_
  show OwnGo p e below (T188.setTop (mkF m 13 #[.val (.ref a2), .val (.ref t1), .val (.int (Int32.ofNat nn)), .val (.int (0 : Int32))] [(.int (0 : Int32)), (.ref t2)])) _
  refine own_back (fun t k => XS.aloadN X188.here hx rfl (hb hby gbb_d13) rfl rfl k) ?_
  show OwnGo p e below (T188.setTop (mkF m 14 #[.val (.ref a2), .val (.ref t1), .val (.int (Int32.ofNat nn)), .val (.int (0 : Int32))] [(.ref t1), (.int (0 : Int32)), (.ref t2)])) _
  refine own_back (fun t k => XS.iloadN X188.here hx rfl (hb hby gbb_d14) rfl k) ?_
  show OwnGo p e below (T188.setTop (mkF m 15 #[.val (.ref a2), .val (.ref t1), .val (.int (Int32.ofNat nn)), .val (.int (0 : Int32))] [(.int (Int32.ofNat nn)), (.ref t1), (.int (0 : Int32)), (.ref t2)])) _
  refine own_back (fun t k => XS.iloadN X188.here hx rfl (hb hby gbb_d15) rfl k) ?_
  show OwnGo p e below (T188.setTop (mkF m 16 #[.val (.ref a2), .val (.ref t1), .val (.int (Int32.ofNat nn)), .val (.int (0 : Int32))] [(.int (0 : Int32)), (.int (Int32.ofNat nn)), (.ref t1), (.int (0 : Int32)), (.ref t2)])) _
  refine own_back (fun t k => XS.ishl X188.here hx rfl (hb hby gbb_d16) rfl k) ?_
  show OwnGo p e below (T188.setTop (mkF m 17 #[.val (.ref a2), .val (.ref t1), .val (.int (Int32.ofNat nn)), .val (.int (0 : Int32))] [(.int ((Int32.ofNat nn) <<< ((0 : Int32) &&& 31))), (.ref t1), (.int (0 : Int32)), (.ref t2)])) _
  rw [own_shl0]
  show OwnGo p e below (T188.setTop (mkF m 17 #[.val (.ref a2), .val (.ref t1), .val (.int (Int32.ofNat nn)), .val (.int (0 : Int32))] [(.int (Int32.ofNat nn)), (.ref t1), (.int (0 : Int32)), (.ref t2)])) _
  refine own_back (fun t k => XS.aloadN X188.here hx rfl (hb hby gbb_d17) rfl rfl k) ?_
  show OwnGo p e below (T188.setTop (mkF m 18 #[.val (.ref a2), .val (.ref t1), .val (.int (Int32.ofNat nn)), .val (.int (0 : Int32))] [(.ref a2), (.int (Int32.ofNat nn)), (.ref t1), (.int (0 : Int32)), (.ref t2)])) _
  obtain ⟨T189, X189, e189, st189⟩ := getF X188 hx hZ hown (host := "") (Or.inl (hw _ (List.mem_of_getElem? (i := 94) rfl))) Via.refl e188 F2 (g := (mkF m 18 #[.val (.ref a2), .val (.ref t1), .val (.int (Int32.ofNat nn)), .val (.int (0 : Int32))] [(.ref a2), (.int (Int32.ofNat nn)), (.ref t1), (.int (0 : Int32)), (.ref t2)])) rfl rfl (hb hby gbb_d18)
  refine own_back st189 ?_
  show OwnGo p e below (T189.setTop (mkF m 21 #[.val (.ref a2), .val (.ref t1), .val (.int (Int32.ofNat nn)), .val (.int (0 : Int32))] [(.ref t2), (.int (Int32.ofNat nn)), (.ref t1), (.int (0 : Int32)), (.ref t2)])) _
  obtain ⟨c190, A190, q190, S190, M190, H190, U190⟩ := id V2
  refine own_back (fun t k => X189.arraylength hx (own_hat e189 A190.1) (State.isArrayOf_alike hZ.alike A190.2.1) (g := (mkF m 21 #[.val (.ref a2), .val (.ref t1), .val (.int (Int32.ofNat nn)), .val (.int (0 : Int32))] [(.ref t2), (.int (Int32.ofNat nn)), (.ref t1), (.int (0 : Int32)), (.ref t2)])) rfl rfl (hb hby gbb_d21) t k) ?_
  rw [len_of S190 M190]
  show OwnGo p e below (T189.setTop (mkF m 22 #[.val (.ref a2), .val (.ref t1), .val (.int (Int32.ofNat nn)), .val (.int (0 : Int32))] [(.int (Int32.ofNat ds.length)), (.int (Int32.ofNat nn)), (.ref t1), (.int (0 : Int32)), (.ref t2)])) _
  obtain ⟨T191, h191, Lq191, X191, e191, N191, K191, V191, st191⟩ := cpA X189 hx hZ hown (hw _ (List.mem_of_getElem? (i := 125) rfl)) (hw _ (List.mem_of_getElem? (i := 128) rfl)) (hw _ (List.mem_of_getElem? (i := 126) rfl)) (hw _ (List.mem_of_getElem? (i := 127) rfl)) e189 V2 V1 (Or.inl ⟨rfl, rfl⟩) (by decide) (own_nn (by omega)) (own_nn (by omega)) (by rw [show (0 : Int32).toNatClampNeg = 0 from rfl]; omega) (by rw [own_clamp (by omega), own_clamp (by omega), own_clamp (by omega)]; omega) rfl (by rw [own_clamp (by omega), own_clamp (by omega), List.length_map]; omega) N187 g1 (g := (mkF m 22 #[.val (.ref a2), .val (.ref t1), .val (.int (Int32.ofNat nn)), .val (.int (0 : Int32))] [(.int (Int32.ofNat ds.length)), (.int (Int32.ofNat nn)), (.ref t1), (.int (0 : Int32)), (.ref t2)])) rfl (by rw [hml]; rfl) (rest := []) rfl (hb hby gbb_d22) (by decide) (W := 0) (by show 2 * 0 + _ ≤ _; exact Nat.le_of_eq rfl) (by decide)
  refine own_back st191 ?_
  have O192 := OL.keep K191 (allS g1 all0)
  have KP193 := KP0.trans K191 (allS (Or.inl (List.mem_of_getElem? (i := 0) rfl)) all0)
  have Zs194 := Nat.le_trans Z0 K191.1
  have V195 := own_len_pad (by simp; omega) (Arv.pad V191 (own_insl us ds nn hn_ (by omega)))
  show OwnGo p e below (T191.setTop (mkF m 25 #[.val (.ref a2), .val (.ref t1), .val (.int (Int32.ofNat nn)), .val (.int (0 : Int32))] [])) _
  refine own_back (fun t k => XS.goto X191.here hx rfl (pc0 := 25) (pc' := 43) rfl (hb hby gbb_d25) (by decide) (by decide) k) ?_
  show OwnGo p e below (T191.setTop (mkF m 43 #[.val (.ref a2), .val (.ref t1), .val (.int (Int32.ofNat nn)), .val (.int (0 : Int32))] [])) _
  refine own_retV X191 hx Bd.notSynchronized Bd.returns (hb hby gbb_d43) e191 (Nat.le_of_ble_eq_true rfl) (Nat.le_of_ble_eq_true rfl) ?_
  exact ⟨rfl, N191, KP193, V195⟩
theorem psa_d0 : decode jdk_68_method_73_code 0 = .ok (.aload_n 0, 1) := by decide +kernel
theorem psa_d1 : decode jdk_68_method_73_code 1 = .ok (.aload_n 2, 1) := by decide +kernel
theorem psa_d2 : decode jdk_68_method_73_code 2 = .ok (.invokevirtual 397, 3) := by decide +kernel
theorem psa_d5 : decode jdk_68_method_73_code 5 = .ok (.aload_n 2, 1) := by decide +kernel
theorem psa_d6 : decode jdk_68_method_73_code 6 = .ok (.aload_n 0, 1) := by decide +kernel
theorem psa_d7 : decode jdk_68_method_73_code 7 = .ok (.getfield 15, 3) := by decide +kernel
theorem psa_d10 : decode jdk_68_method_73_code 10 = .ok (.iload_n 1, 1) := by decide +kernel
theorem psa_d11 : decode jdk_68_method_73_code 11 = .ok (.aload_n 0, 1) := by decide +kernel
theorem psa_d12 : decode jdk_68_method_73_code 12 = .ok (.getfield 22, 3) := by decide +kernel
theorem psa_d15 : decode jdk_68_method_73_code 15 = .ok (.invokevirtual 399, 3) := by decide +kernel
theorem psa_d18 : decode jdk_68_method_73_code 18 = .ok (.return_, 1) := by decide +kernel
theorem psa_pn : plainName "java/lang/AbstractStringBuilder" = true := by first | (simp [plainName, overriddenIn]; done) | decide +kernel
theorem psa_pd0 : parseMethodDescriptor "(Ljava/lang/String;)V" = some ⟨[(.object "java/lang/String")], none⟩ := by decide +kernel
theorem psa_pd1 : parseMethodDescriptor "([BIB)V" = some ⟨[(.array .byte), .int, .byte], none⟩ := by decide +kernel
theorem psa_ef (m : MethodId) (x0 : Addr) (x1 : Int32) (x2 : Addr) : entryFrame m #[(.ref x0), (.int x1), (.ref x2)] 3 = mkF m 0 #[.val (.ref x0), .val (.int x1), .val (.ref x2)] [] := by first | (simp [entryFrame, mkF, argsToLocals, Value.category]; done) | rfl
set_option maxRecDepth 65536 in
set_option maxHeartbeats 40000000 in
theorem rm_psa (l : Launch) (Z : State) (a0 : Array Value) (hw : ∀ d ∈ tables_1, d.before a0 Z = true) (ws : List Jvm.Cond) (a1 : Addr) (t1 : Addr) (us : List Int32) (nn : Nat) (a2 : Addr) (ds : List Int32) (cz : Int32) (h0 : Heap) (n0 : Nat) (Z0 : n0 ≤ h0.size) (OL : Old Z n0 h0) (B1 : OwnBd Z h0 a1 t1 us nn) (B2 : OwnStr Z h0 a2 ds) (g1 : n0 ≤ t1) (hn_ : nn + ds.length ≤ us.length) (SC : Sta Z Z.heap "java/lang/String" "COMPACT_STRINGS" "Z" (.int cz)) (hcz : ¬ cz = 0) :
    MetFree l (⟨"java/lang/AbstractStringBuilder", "putStringAt", "(ILjava/lang/String;)V"⟩ : MethodName) (head1 (Jvm.Cond.code (⟨"java/lang/AbstractStringBuilder", "putStringAt", "(ILjava/lang/String;)V"⟩ : MethodName) jdk_68_method_73_code 3 none :: ws) ({ frames := 2, cells := 0, slots := 0, locals := 90 } : Room)) (fun a U => a = #[(.ref a1), (.int (Int32.ofNat nn)), (.ref a2)] ∧ Z.Warmed39 U.vm ∧ U.heap = h0) (fun _ _ _ _ _ => True) (fun _ U o U' => OwnEnd U (fun v h L => v = none ∧ Fr n0 L ∧ Keep h0 h [t1] ∧ ∃ k, Arv Z h t1 k .byte (Int32.ofNat (us.take nn ++ ds ++ us.drop (nn + ds.length)).length) ((us.take nn ++ ds ++ us.drop (nn + ds.length)).map Value.int) (.int 0)) ({ frames := 2, cells := 0, slots := 0, locals := 90 } : Room).cells ({ frames := 2, cells := 0, slots := 0, locals := 90 } : Room).slots o U') := by
  refine MetFree.of_bodySF (plainFor_of_name psa_pn) hisR ?_
  intro p e s m args below meth c s₁ Bd hml0 hP hK
  obtain ⟨rfl, hZ, hh⟩ := hP
  have hx := Bd.exec
  have hby := Bd.bytes
  have hml : c.maxLocals = 3 := hml0
  have hown : s.vm.findClass "java/lang/AbstractStringBuilder" = some m.cls := findClass_of_methodNamed Bd.named
  have hnm := (name_of_methodNamed Bd.named Bd.method).1
  have X0 : Stand p l e ({ frames := 2, cells := 0, slots := 0, locals := 90 } : Room) s m #[(.ref a1), (.int (Int32.ofNat nn)), (.ref a2)] below meth c s₁ [] 0 0 := Stand.of_body Bd
  have e0 : s₁.heap = h0 := by rw [← hh, Bd.state]; rfl
  have N0 := Fr.nil n0
  have KP0 := Keep.refl h0 [t1]
  refine own_go (Q := (OwnEnd s (fun v h L => v = none ∧ Fr n0 L ∧ Keep h0 h [t1] ∧ ∃ k, Arv Z h t1 k .byte (Int32.ofNat (us.take nn ++ ds ++ us.drop (nn + ds.length)).length) ((us.take nn ++ ds ++ us.drop (nn + ds.length)).map Value.int) (.int 0)) ({ frames := 2, cells := 0, slots := 0, locals := 90 } : Room).cells ({ frames := 2, cells := 0, slots := 0, locals := 90 } : Room).slots)) ?_
  refine own_back (fun t k => castTop (psa_ef m a1 (Int32.ofNat nn) a2) k) ?_
  show OwnGo p e below (s₁.setTop (mkF m 0 #[.val (.ref a1), .val (.int (Int32.ofNat nn)), .val (.ref a2)] [])) _
  obtain ⟨k1, E1, C1, F1, N1, V1, X1, m1, m2⟩ := id B1
  refine own_back (fun t k => XS.aloadN X0.here hx rfl (hb hby psa_d0) rfl rfl k) ?_
  show OwnGo p e below (s₁.setTop (mkF m 1 #[.val (.ref a1), .val (.int (Int32.ofNat nn)), .val (.ref a2)] [(.ref a1)])) _
  refine own_back (fun t k => XS.aloadN X0.here hx rfl (hb hby psa_d1) rfl rfl k) ?_
  show OwnGo p e below (s₁.setTop (mkF m 2 #[.val (.ref a1), .val (.int (Int32.ofNat nn)), .val (.ref a2)] [(.ref a2), (.ref a1)])) _
  obtain ⟨cq196, kq196, q196a, q196b, q196c⟩ := isOf hZ e0 E1
  obtain ⟨_, _, ⟨T196, L196, k196, n196⟩, -, X196, ⟨Lc196, hQ196, l196, y196, z196⟩, st196⟩ := X0.virtualBack hx (y := (⟨"java/lang/AbstractStringBuilder", "inflateIfNeededFor", "(Ljava/lang/String;)V"⟩ : MethodName)) (z := (⟨"java/lang/AbstractStringBuilder", "inflateIfNeededFor", "(Ljava/lang/String;)V"⟩ : MethodName)) hown (mvT hZ (hw _ (List.mem_of_getElem? (i := 114) rfl))) (mvT hZ (own_decl (hw _ (List.mem_of_getElem? (i := 115) rfl)) (hw _ (List.mem_of_getElem? (i := 118) rfl)))) (notFace_of_selects (args := #[]) (mvT hZ (hw _ (List.mem_of_getElem? (i := 117) rfl)))) (mvT hZ (hw _ (List.mem_of_getElem? (i := 117) rfl))) (mvT hZ (hw _ (List.mem_of_getElem? (i := 115) rfl))) (by decide) (own_backN (W := 0) (rm_inf l Z a0 hw [] a1 t1 us nn a2 ds cz h0 n0 Z0 OL B1 B2 SC hcz) hZ (hw _ (List.mem_of_getElem? (i := 118) rfl)) (hw _ (List.mem_of_getElem? (i := 71) rfl)) (by decide) (by decide)) q196a q196c (g := (mkF m 2 #[.val (.ref a1), .val (.int (Int32.ofNat nn)), .val (.ref a2)] [(.ref a2), (.ref a1)])) rfl (by rw [hml]; rfl) (Steps.refl _) (argsL := [(.ref a2)]) (rest := []) (lenOf psa_pd0 rfl) rfl (by show 2 * 0 + _ ≤ _; exact Nat.le_of_eq rfl) (hb hby psa_d2) (fun _ _ => ⟨rfl, e0, Nat.le_of_ble_eq_true rfl, Nat.le_of_ble_eq_true rfl⟩)
  dsimp only [Pt.U, Pt.locs, Pt.cells, Pt.slots] at X196 l196 y196 z196 st196 hQ196
  subst l196 y196 z196
  obtain ⟨rfl, N196q, hh196⟩ := hQ196
  refine own_seq st196 ?_
  have N196 := Fr.app N0 N196q
  show OwnGo p e below (T196.setTop (mkF m 5 #[.val (.ref a1), .val (.int (Int32.ofNat nn)), .val (.ref a2)] [])) _
  refine own_back (fun t k => XS.aloadN X196.here hx rfl (hb hby psa_d5) rfl rfl k) ?_
  show OwnGo p e below (T196.setTop (mkF m 6 #[.val (.ref a1), .val (.int (Int32.ofNat nn)), .val (.ref a2)] [(.ref a2)])) _
  refine own_back (fun t k => XS.aloadN X196.here hx rfl (hb hby psa_d6) rfl rfl k) ?_
  show OwnGo p e below (T196.setTop (mkF m 7 #[.val (.ref a1), .val (.int (Int32.ofNat nn)), .val (.ref a2)] [(.ref a1), (.ref a2)])) _
  obtain ⟨T197, X197, e197, st197⟩ := getF X196 hx hZ hown (host := "") (Or.inl (hw _ (List.mem_of_getElem? (i := 75) rfl))) Via.refl hh196 F1 (g := (mkF m 7 #[.val (.ref a1), .val (.int (Int32.ofNat nn)), .val (.ref a2)] [(.ref a1), (.ref a2)])) rfl rfl (hb hby psa_d7)
  refine own_back st197 ?_
  show OwnGo p e below (T197.setTop (mkF m 10 #[.val (.ref a1), .val (.int (Int32.ofNat nn)), .val (.ref a2)] [(.ref t1), (.ref a2)])) _
  refine own_back (fun t k => XS.iloadN X197.here hx rfl (hb hby psa_d10) rfl k) ?_
  show OwnGo p e below (T197.setTop (mkF m 11 #[.val (.ref a1), .val (.int (Int32.ofNat nn)), .val (.ref a2)] [(.int (Int32.ofNat nn)), (.ref t1), (.ref a2)])) _
  refine own_back (fun t k => XS.aloadN X197.here hx rfl (hb hby psa_d11) rfl rfl k) ?_
  show OwnGo p e below (T197.setTop (mkF m 12 #[.val (.ref a1), .val (.int (Int32.ofNat nn)), .val (.ref a2)] [(.ref a1), (.int (Int32.ofNat nn)), (.ref t1), (.ref a2)])) _
  obtain ⟨T198, X198, e198, st198⟩ := getF X197 hx hZ hown (host := "") (Or.inl (hw _ (List.mem_of_getElem? (i := 77) rfl))) Via.refl e197 C1 (g := (mkF m 12 #[.val (.ref a1), .val (.int (Int32.ofNat nn)), .val (.ref a2)] [(.ref a1), (.int (Int32.ofNat nn)), (.ref t1), (.ref a2)])) rfl rfl (hb hby psa_d12)
  refine own_back st198 ?_
  show OwnGo p e below (T198.setTop (mkF m 15 #[.val (.ref a1), .val (.int (Int32.ofNat nn)), .val (.ref a2)] [(.int (0 : Int32)), (.int (Int32.ofNat nn)), (.ref t1), (.ref a2)])) _
  obtain ⟨cq199, kq199, q199a, q199b, q199c⟩ := isOf hZ e198 (OwnStr.exa B2)
  obtain ⟨_, _, ⟨T199, L199, k199, n199⟩, -, X199, ⟨Lc199, hQ199, l199, y199, z199⟩, st199⟩ := X198.virtualBack hx (y := (⟨"java/lang/String", "getBytes", "([BIB)V"⟩ : MethodName)) (z := (⟨"java/lang/String", "getBytes", "([BIB)V"⟩ : MethodName)) hown (mvT hZ (hw _ (List.mem_of_getElem? (i := 120) rfl))) (mvT hZ (hw _ (List.mem_of_getElem? (i := 121) rfl))) (notFace_of_selects (args := #[]) (mvT hZ (hw _ (List.mem_of_getElem? (i := 123) rfl)))) (mvT hZ (hw _ (List.mem_of_getElem? (i := 123) rfl))) (mvT hZ (hw _ (List.mem_of_getElem? (i := 122) rfl))) (by decide) (own_backN (W := 0) (rm_gbb l Z a0 hw [] t1 k1 us nn a2 ds cz h0 n0 Z0 OL V1 m2 g1 hn_ B2 SC hcz) hZ (hw _ (List.mem_of_getElem? (i := 124) rfl)) (hw _ (List.mem_of_getElem? (i := 10) rfl)) (by decide) (by decide)) q199a q199c (g := (mkF m 15 #[.val (.ref a1), .val (.int (Int32.ofNat nn)), .val (.ref a2)] [(.int (0 : Int32)), (.int (Int32.ofNat nn)), (.ref t1), (.ref a2)])) rfl (by rw [hml]; rfl) (Steps.refl _) (argsL := [(.ref t1), (.int (Int32.ofNat nn)), (.int (0 : Int32))]) (rest := []) (lenOf psa_pd1 rfl) rfl (by show 2 * 0 + _ ≤ _; exact Nat.le_of_eq rfl) (hb hby psa_d15) (fun _ _ => ⟨rfl, e198, Nat.le_of_ble_eq_true rfl, Nat.le_of_ble_eq_true rfl⟩)
  dsimp only [Pt.U, Pt.locs, Pt.cells, Pt.slots] at X199 l199 y199 z199 st199 hQ199
  subst l199 y199 z199
  obtain ⟨rfl, N199q, K199, V199⟩ := hQ199
  refine own_seq st199 ?_
  have N199 := Fr.app N196 N199q
  have O200 := OL.keep K199 (allS g1 all0)
  have KP201 := KP0.trans K199 (allS (Or.inl (List.mem_of_getElem? (i := 0) rfl)) all0)
  have Zs202 := Nat.le_trans Z0 K199.1
  show OwnGo p e below (T199.setTop (mkF m 18 #[.val (.ref a1), .val (.int (Int32.ofNat nn)), .val (.ref a2)] [])) _
  refine own_retV X199 hx Bd.notSynchronized Bd.returns (hb hby psa_d18) rfl (Nat.le_of_ble_eq_true rfl) (Nat.le_of_ble_eq_true rfl) ?_
  exact ⟨rfl, N199, KP201, (by exact ⟨_, V199⟩)⟩
theorem aap_d0 : decode jdk_68_method_22_code 0 = .ok (.aload_n 1, 1) := by decide +kernel
theorem aap_d1 : decode jdk_68_method_22_code 1 = .ok (.ifnonnull 8, 3) := by decide +kernel
theorem aap_d9 : decode jdk_68_method_22_code 9 = .ok (.aload_n 1, 1) := by decide +kernel
theorem aap_d10 : decode jdk_68_method_22_code 10 = .ok (.invokevirtual 32, 3) := by decide +kernel
theorem aap_d13 : decode jdk_68_method_22_code 13 = .ok (.istore_n 2, 1) := by decide +kernel
theorem aap_d14 : decode jdk_68_method_22_code 14 = .ok (.aload_n 0, 1) := by decide +kernel
theorem aap_d15 : decode jdk_68_method_22_code 15 = .ok (.aload_n 0, 1) := by decide +kernel
theorem aap_d16 : decode jdk_68_method_22_code 16 = .ok (.getfield 79, 3) := by decide +kernel
theorem aap_d19 : decode jdk_68_method_22_code 19 = .ok (.iload_n 2, 1) := by decide +kernel
theorem aap_d20 : decode jdk_68_method_22_code 20 = .ok (.iadd, 1) := by decide +kernel
theorem aap_d21 : decode jdk_68_method_22_code 21 = .ok (.invokevirtual 100, 3) := by decide +kernel
theorem aap_d24 : decode jdk_68_method_22_code 24 = .ok (.aload_n 0, 1) := by decide +kernel
theorem aap_d25 : decode jdk_68_method_22_code 25 = .ok (.aload_n 0, 1) := by decide +kernel
theorem aap_d26 : decode jdk_68_method_22_code 26 = .ok (.getfield 79, 3) := by decide +kernel
theorem aap_d29 : decode jdk_68_method_22_code 29 = .ok (.aload_n 1, 1) := by decide +kernel
theorem aap_d30 : decode jdk_68_method_22_code 30 = .ok (.invokevirtual 208, 3) := by decide +kernel
theorem aap_d33 : decode jdk_68_method_22_code 33 = .ok (.aload_n 0, 1) := by decide +kernel
theorem aap_d34 : decode jdk_68_method_22_code 34 = .ok (.dup, 1) := by decide +kernel
theorem aap_d35 : decode jdk_68_method_22_code 35 = .ok (.getfield 79, 3) := by decide +kernel
theorem aap_d38 : decode jdk_68_method_22_code 38 = .ok (.iload_n 2, 1) := by decide +kernel
theorem aap_d39 : decode jdk_68_method_22_code 39 = .ok (.iadd, 1) := by decide +kernel
theorem aap_d40 : decode jdk_68_method_22_code 40 = .ok (.putfield 79, 3) := by decide +kernel
theorem aap_d43 : decode jdk_68_method_22_code 43 = .ok (.aload_n 0, 1) := by decide +kernel
theorem aap_d44 : decode jdk_68_method_22_code 44 = .ok (.areturn, 1) := by decide +kernel
theorem aap_pn : plainName "java/lang/AbstractStringBuilder" = true := by first | (simp [plainName, overriddenIn]; done) | decide +kernel
theorem aap_pd0 : parseMethodDescriptor "()I" = some ⟨[], some .int⟩ := by decide +kernel
theorem aap_pd1 : parseMethodDescriptor "(I)V" = some ⟨[.int], none⟩ := by decide +kernel
theorem aap_pd2 : parseMethodDescriptor "(ILjava/lang/String;)V" = some ⟨[.int, (.object "java/lang/String")], none⟩ := by decide +kernel
theorem aap_ef (m : MethodId) (x0 : Addr) (x1 : Addr) : entryFrame m #[(.ref x0), (.ref x1)] 3 = mkF m 0 #[.val (.ref x0), .val (.ref x1), .unset] [] := by first | (simp [entryFrame, mkF, argsToLocals, Value.category]; done) | rfl
set_option maxRecDepth 65536 in
set_option maxHeartbeats 40000000 in
theorem rm_aap (l : Launch) (Z : State) (a0 : Array Value) (hw : ∀ d ∈ tables_1, d.before a0 Z = true) (ws : List Jvm.Cond) (a1 : Addr) (t1 : Addr) (us : List Int32) (nn : Nat) (a2 : Addr) (ds : List Int32) (cz : Int32) (h0 : Heap) (n0 : Nat) (Z0 : n0 ≤ h0.size) (OL : Old Z n0 h0) (B1 : OwnBd Z h0 a1 t1 us nn) (B2 : OwnStr Z h0 a2 ds) (g0 : n0 ≤ a1) (g1 : n0 ≤ t1) (hn_ : nn + ds.length ≤ us.length) (SC : Sta Z Z.heap "java/lang/String" "COMPACT_STRINGS" "Z" (.int cz)) (hcz : ¬ cz = 0) :
    MetFree l (⟨"java/lang/AbstractStringBuilder", "append", "(Ljava/lang/String;)Ljava/lang/AbstractStringBuilder;"⟩ : MethodName) (head1 (Jvm.Cond.code (⟨"java/lang/AbstractStringBuilder", "append", "(Ljava/lang/String;)Ljava/lang/AbstractStringBuilder;"⟩ : MethodName) jdk_68_method_22_code 3 (some (.object "java/lang/AbstractStringBuilder")) :: ws) ({ frames := 3, cells := 0, slots := 0, locals := 115 } : Room)) (fun a U => a = #[(.ref a1), (.ref a2)] ∧ Z.Warmed39 U.vm ∧ U.heap = h0) (fun _ _ _ _ _ => True) (fun _ U o U' => OwnEnd U (fun v h L => v = some (.ref a1) ∧ Fr n0 L ∧ Keep h0 h [a1, t1] ∧ OwnBd Z h a1 t1 (us.take nn ++ ds ++ us.drop (nn + ds.length)) (nn + ds.length)) ({ frames := 3, cells := 0, slots := 0, locals := 115 } : Room).cells ({ frames := 3, cells := 0, slots := 0, locals := 115 } : Room).slots o U') := by
  refine MetFree.of_bodySF (plainFor_of_name aap_pn) hisR ?_
  intro p e s m args below meth c s₁ Bd hml0 hP hK
  obtain ⟨rfl, hZ, hh⟩ := hP
  have hx := Bd.exec
  have hby := Bd.bytes
  have hml : c.maxLocals = 3 := hml0
  have hown : s.vm.findClass "java/lang/AbstractStringBuilder" = some m.cls := findClass_of_methodNamed Bd.named
  have hnm := (name_of_methodNamed Bd.named Bd.method).1
  have X0 : Stand p l e ({ frames := 3, cells := 0, slots := 0, locals := 115 } : Room) s m #[(.ref a1), (.ref a2)] below meth c s₁ [] 0 0 := Stand.of_body Bd
  have e0 : s₁.heap = h0 := by rw [← hh, Bd.state]; rfl
  have N0 := Fr.nil n0
  have KP0 := Keep.refl h0 [a1, t1]
  refine own_go (Q := (OwnEnd s (fun v h L => v = some (.ref a1) ∧ Fr n0 L ∧ Keep h0 h [a1, t1] ∧ OwnBd Z h a1 t1 (us.take nn ++ ds ++ us.drop (nn + ds.length)) (nn + ds.length)) ({ frames := 3, cells := 0, slots := 0, locals := 115 } : Room).cells ({ frames := 3, cells := 0, slots := 0, locals := 115 } : Room).slots)) ?_
  refine own_back (fun t k => castTop (aap_ef m a1 a2) k) ?_
  show OwnGo p e below (s₁.setTop (mkF m 0 #[.val (.ref a1), .val (.ref a2), .unset] [])) _
  obtain ⟨k1, E1, C1, F1, N1, V1, X1, m1, m2⟩ := id B1
  have ne1 := own_exaarv V1 E1 (hw _ (List.mem_of_getElem? (i := 62) rfl))
  refine own_back (fun t k => XS.aloadN X0.here hx rfl (hb hby aap_d0) rfl rfl k) ?_
  show OwnGo p e below (s₁.setTop (mkF m 1 #[.val (.ref a1), .val (.ref a2), .unset] [(.ref a2)])) _
  refine own_back (fun t k => XS.ifnonnullYes X0.here hx rfl (pc0 := 1) (pc' := 9) rfl (hb hby aap_d1) rfl (by decide) (by decide) k) ?_
  show OwnGo p e below (s₁.setTop (mkF m 9 #[.val (.ref a1), .val (.ref a2), .unset] [])) _
  refine own_back (fun t k => XS.aloadN X0.here hx rfl (hb hby aap_d9) rfl rfl k) ?_
  show OwnGo p e below (s₁.setTop (mkF m 10 #[.val (.ref a1), .val (.ref a2), .unset] [(.ref a2)])) _
  obtain ⟨cq203, kq203, q203a, q203b, q203c⟩ := isOf hZ e0 (OwnStr.exa B2)
  obtain ⟨_, _, ⟨T203, L203, k203, n203⟩, -, X203, ⟨Lc203, hQ203, l203, y203, z203⟩, st203⟩ := X0.virtualBack hx (y := (⟨"java/lang/String", "length", "()I"⟩ : MethodName)) (z := (⟨"java/lang/String", "length", "()I"⟩ : MethodName)) hown (mvT hZ (hw _ (List.mem_of_getElem? (i := 89) rfl))) (mvT hZ (hw _ (List.mem_of_getElem? (i := 90) rfl))) (notFace_of_selects (args := #[]) (mvT hZ (hw _ (List.mem_of_getElem? (i := 92) rfl)))) (mvT hZ (hw _ (List.mem_of_getElem? (i := 92) rfl))) (mvT hZ (hw _ (List.mem_of_getElem? (i := 91) rfl))) (by decide) (own_backN (W := 0) (rm_len l Z a0 hw [] a2 ds cz h0 n0 Z0 OL B2 SC hcz) hZ (hw _ (List.mem_of_getElem? (i := 93) rfl)) (hw _ (List.mem_of_getElem? (i := 10) rfl)) (by decide) (by decide)) q203a q203c (g := (mkF m 10 #[.val (.ref a1), .val (.ref a2), .unset] [(.ref a2)])) rfl (by rw [hml]; rfl) (Steps.refl _) (argsL := []) (rest := []) (lenOf aap_pd0 rfl) rfl (by show 2 * 0 + _ ≤ _; exact Nat.le_of_eq rfl) (hb hby aap_d10) (fun _ _ => ⟨rfl, e0, Nat.le_of_ble_eq_true rfl, Nat.le_of_ble_eq_true rfl⟩)
  dsimp only [Pt.U, Pt.locs, Pt.cells, Pt.slots] at X203 l203 y203 z203 st203 hQ203
  subst l203 y203 z203
  obtain ⟨rfl, N203q, hh203⟩ := hQ203
  refine own_seq st203 ?_
  have N203 := Fr.app N0 N203q
  show OwnGo p e below (T203.setTop (mkF m 13 #[.val (.ref a1), .val (.ref a2), .unset] [(.int (Int32.ofNat ds.length))])) _
  refine own_back (fun t k => XS.istoreN X203.here hx rfl (hb hby aap_d13) rfl (l' := #[.val (.ref a1), .val (.ref a2), .val (.int (Int32.ofNat ds.length))]) rfl k) ?_
  show OwnGo p e below (T203.setTop (mkF m 14 #[.val (.ref a1), .val (.ref a2), .val (.int (Int32.ofNat ds.length))] [])) _
  refine own_back (fun t k => XS.aloadN X203.here hx rfl (hb hby aap_d14) rfl rfl k) ?_
  show OwnGo p e below (T203.setTop (mkF m 15 #[.val (.ref a1), .val (.ref a2), .val (.int (Int32.ofNat ds.length))] [(.ref a1)])) _
  refine own_back (fun t k => XS.aloadN X203.here hx rfl (hb hby aap_d15) rfl rfl k) ?_
  show OwnGo p e below (T203.setTop (mkF m 16 #[.val (.ref a1), .val (.ref a2), .val (.int (Int32.ofNat ds.length))] [(.ref a1), (.ref a1)])) _
  obtain ⟨T204, X204, e204, st204⟩ := getF X203 hx hZ hown (host := "") (Or.inl (hw _ (List.mem_of_getElem? (i := 102) rfl))) Via.refl hh203 N1 (g := (mkF m 16 #[.val (.ref a1), .val (.ref a2), .val (.int (Int32.ofNat ds.length))] [(.ref a1), (.ref a1)])) rfl rfl (hb hby aap_d16)
  refine own_back st204 ?_
  show OwnGo p e below (T204.setTop (mkF m 19 #[.val (.ref a1), .val (.ref a2), .val (.int (Int32.ofNat ds.length))] [(.int (Int32.ofNat nn)), (.ref a1)])) _
  refine own_back (fun t k => XS.iloadN X204.here hx rfl (hb hby aap_d19) rfl k) ?_
  show OwnGo p e below (T204.setTop (mkF m 20 #[.val (.ref a1), .val (.ref a2), .val (.int (Int32.ofNat ds.length))] [(.int (Int32.ofNat ds.length)), (.int (Int32.ofNat nn)), (.ref a1)])) _
  refine own_back (fun t k => XS.iadd X204.here hx rfl (hb hby aap_d20) rfl k) ?_
  show OwnGo p e below (T204.setTop (mkF m 21 #[.val (.ref a1), .val (.ref a2), .val (.int (Int32.ofNat ds.length))] [(.int ((Int32.ofNat nn) + (Int32.ofNat ds.length))), (.ref a1)])) _
  rw [show (Int32.ofNat nn + Int32.ofNat ds.length) = Int32.ofNat (nn + ds.length) from (Int32.ofNat_add nn ds.length).symm]
  show OwnGo p e below (T204.setTop (mkF m 21 #[.val (.ref a1), .val (.ref a2), .val (.int (Int32.ofNat ds.length))] [(.int (Int32.ofNat (nn + ds.length))), (.ref a1)])) _
  obtain ⟨cq205, kq205, q205a, q205b, q205c⟩ := isOf hZ e204 E1
  obtain ⟨_, _, ⟨T205, L205, k205, n205⟩, -, X205, ⟨Lc205, hQ205, l205, y205, z205⟩, st205⟩ := X204.virtualBack hx (y := (⟨"java/lang/AbstractStringBuilder", "ensureCapacityInternal", "(I)V"⟩ : MethodName)) (z := (⟨"java/lang/AbstractStringBuilder", "ensureCapacityInternal", "(I)V"⟩ : MethodName)) hown (mvT hZ (hw _ (List.mem_of_getElem? (i := 104) rfl))) (mvT hZ (own_decl (hw _ (List.mem_of_getElem? (i := 105) rfl)) (hw _ (List.mem_of_getElem? (i := 108) rfl)))) (notFace_of_selects (args := #[]) (mvT hZ (hw _ (List.mem_of_getElem? (i := 107) rfl)))) (mvT hZ (hw _ (List.mem_of_getElem? (i := 107) rfl))) (mvT hZ (hw _ (List.mem_of_getElem? (i := 105) rfl))) (by decide) (own_backN (W := 0) (rm_eci l Z a0 hw [] a1 t1 us nn (nn + ds.length) h0 n0 Z0 B1 hn_) hZ (hw _ (List.mem_of_getElem? (i := 108) rfl)) (hw _ (List.mem_of_getElem? (i := 71) rfl)) (by decide) (by decide)) q205a q205c (g := (mkF m 21 #[.val (.ref a1), .val (.ref a2), .val (.int (Int32.ofNat ds.length))] [(.int (Int32.ofNat (nn + ds.length))), (.ref a1)])) rfl (by rw [hml]; rfl) (Steps.refl _) (argsL := [(.int (Int32.ofNat (nn + ds.length)))]) (rest := []) (lenOf aap_pd1 rfl) rfl (by show 2 * 0 + _ ≤ _; exact Nat.le_of_eq rfl) (hb hby aap_d21) (fun _ _ => ⟨rfl, e204, Nat.le_of_ble_eq_true rfl, Nat.le_of_ble_eq_true rfl⟩)
  dsimp only [Pt.U, Pt.locs, Pt.cells, Pt.slots] at X205 l205 y205 z205 st205 hQ205
  subst l205 y205 z205
  obtain ⟨rfl, N205q, hh205⟩ := hQ205
  refine own_seq st205 ?_
  have N205 := Fr.app N203 N205q
  show OwnGo p e below (T205.setTop (mkF m 24 #[.val (.ref a1), .val (.ref a2), .val (.int (Int32.ofNat ds.length))] [])) _
  refine own_back (fun t k => XS.aloadN X205.here hx rfl (hb hby aap_d24) rfl rfl k) ?_
  show OwnGo p e below (T205.setTop (mkF m 25 #[.val (.ref a1), .val (.ref a2), .val (.int (Int32.ofNat ds.length))] [(.ref a1)])) _
  refine own_back (fun t k => XS.aloadN X205.here hx rfl (hb hby aap_d25) rfl rfl k) ?_
  show OwnGo p e below (T205.setTop (mkF m 26 #[.val (.ref a1), .val (.ref a2), .val (.int (Int32.ofNat ds.length))] [(.ref a1), (.ref a1)])) _
  obtain ⟨T206, X206, e206, st206⟩ := getF X205 hx hZ hown (host := "") (Or.inl (hw _ (List.mem_of_getElem? (i := 102) rfl))) Via.refl hh205 N1 (g := (mkF m 26 #[.val (.ref a1), .val (.ref a2), .val (.int (Int32.ofNat ds.length))] [(.ref a1), (.ref a1)])) rfl rfl (hb hby aap_d26)
  refine own_back st206 ?_
  show OwnGo p e below (T206.setTop (mkF m 29 #[.val (.ref a1), .val (.ref a2), .val (.int (Int32.ofNat ds.length))] [(.int (Int32.ofNat nn)), (.ref a1)])) _
  refine own_back (fun t k => XS.aloadN X206.here hx rfl (hb hby aap_d29) rfl rfl k) ?_
  show OwnGo p e below (T206.setTop (mkF m 30 #[.val (.ref a1), .val (.ref a2), .val (.int (Int32.ofNat ds.length))] [(.ref a2), (.int (Int32.ofNat nn)), (.ref a1)])) _
  obtain ⟨cq207, kq207, q207a, q207b, q207c⟩ := isOf hZ e206 E1
  obtain ⟨_, _, ⟨T207, L207, k207, n207⟩, -, X207, ⟨Lc207, hQ207, l207, y207, z207⟩, st207⟩ := X206.virtualBack hx (y := (⟨"java/lang/AbstractStringBuilder", "putStringAt", "(ILjava/lang/String;)V"⟩ : MethodName)) (z := (⟨"java/lang/AbstractStringBuilder", "putStringAt", "(ILjava/lang/String;)V"⟩ : MethodName)) hown (mvT hZ (hw _ (List.mem_of_getElem? (i := 109) rfl))) (mvT hZ (own_decl (hw _ (List.mem_of_getElem? (i := 110) rfl)) (hw _ (List.mem_of_getElem? (i := 113) rfl)))) (notFace_of_selects (args := #[]) (mvT hZ (hw _ (List.mem_of_getElem? (i := 112) rfl)))) (mvT hZ (hw _ (List.mem_of_getElem? (i := 112) rfl))) (mvT hZ (hw _ (List.mem_of_getElem? (i := 110) rfl))) (by decide) (own_backN (W := 0) (rm_psa l Z a0 hw [] a1 t1 us nn a2 ds cz h0 n0 Z0 OL B1 B2 g1 hn_ SC hcz) hZ (hw _ (List.mem_of_getElem? (i := 113) rfl)) (hw _ (List.mem_of_getElem? (i := 71) rfl)) (by decide) (by decide)) q207a q207c (g := (mkF m 30 #[.val (.ref a1), .val (.ref a2), .val (.int (Int32.ofNat ds.length))] [(.ref a2), (.int (Int32.ofNat nn)), (.ref a1)])) rfl (by rw [hml]; rfl) (Steps.refl _) (argsL := [(.int (Int32.ofNat nn)), (.ref a2)]) (rest := []) (lenOf aap_pd2 rfl) rfl (by show 2 * 0 + _ ≤ _; exact Nat.le_of_eq rfl) (hb hby aap_d30) (fun _ _ => ⟨rfl, e206, Nat.le_of_ble_eq_true rfl, Nat.le_of_ble_eq_true rfl⟩)
  dsimp only [Pt.U, Pt.locs, Pt.cells, Pt.slots] at X207 l207 y207 z207 st207 hQ207
  subst l207 y207 z207
  obtain ⟨rfl, N207q, K207, kv207, V207⟩ := hQ207
  refine own_seq st207 ?_
  have N207 := Fr.app N205 N207q
  have O208 := OL.keep K207 (allS g1 all0)
  have KP209 := KP0.trans K207 (allS (Or.inl (List.mem_of_getElem? (i := 1) rfl)) all0)
  have Zs210 := Nat.le_trans Z0 K207.1
  have f211 := E1.keep K207
  have f212 := C1.keep K207 (ninS (Ne.symm ne1) nin0)
  have f213 := F1.keep K207 (ninS (Ne.symm ne1) nin0)
  have f214 := N1.keep K207 (ninS (Ne.symm ne1) nin0)
  have f215 := X1.keep K207
  show OwnGo p e below (T207.setTop (mkF m 33 #[.val (.ref a1), .val (.ref a2), .val (.int (Int32.ofNat ds.length))] [])) _
  refine own_back (fun t k => XS.aloadN X207.here hx rfl (hb hby aap_d33) rfl rfl k) ?_
  show OwnGo p e below (T207.setTop (mkF m 34 #[.val (.ref a1), .val (.ref a2), .val (.int (Int32.ofNat ds.length))] [(.ref a1)])) _
  refine own_back (fun t k => XS.dup X207.here hx rfl (hb hby aap_d34) rfl rfl k) ?_
  show OwnGo p e below (T207.setTop (mkF m 35 #[.val (.ref a1), .val (.ref a2), .val (.int (Int32.ofNat ds.length))] [(.ref a1), (.ref a1)])) _
  obtain ⟨T216, X216, e216, st216⟩ := getF X207 hx hZ hown (host := "") (Or.inl (hw _ (List.mem_of_getElem? (i := 102) rfl))) Via.refl rfl f214 (g := (mkF m 35 #[.val (.ref a1), .val (.ref a2), .val (.int (Int32.ofNat ds.length))] [(.ref a1), (.ref a1)])) rfl rfl (hb hby aap_d35)
  refine own_back st216 ?_
  show OwnGo p e below (T216.setTop (mkF m 38 #[.val (.ref a1), .val (.ref a2), .val (.int (Int32.ofNat ds.length))] [(.int (Int32.ofNat nn)), (.ref a1)])) _
  refine own_back (fun t k => XS.iloadN X216.here hx rfl (hb hby aap_d38) rfl k) ?_
  show OwnGo p e below (T216.setTop (mkF m 39 #[.val (.ref a1), .val (.ref a2), .val (.int (Int32.ofNat ds.length))] [(.int (Int32.ofNat ds.length)), (.int (Int32.ofNat nn)), (.ref a1)])) _
  refine own_back (fun t k => XS.iadd X216.here hx rfl (hb hby aap_d39) rfl k) ?_
  show OwnGo p e below (T216.setTop (mkF m 40 #[.val (.ref a1), .val (.ref a2), .val (.int (Int32.ofNat ds.length))] [(.int ((Int32.ofNat nn) + (Int32.ofNat ds.length))), (.ref a1)])) _
  rw [show (Int32.ofNat nn + Int32.ofNat ds.length) = Int32.ofNat (nn + ds.length) from (Int32.ofNat_add nn ds.length).symm]
  show OwnGo p e below (T216.setTop (mkF m 40 #[.val (.ref a1), .val (.ref a2), .val (.int (Int32.ofNat ds.length))] [(.int (Int32.ofNat (nn + ds.length))), (.ref a1)])) _
  obtain ⟨T217, h217, X217, e217, W217, st217⟩ := putF X216 hx hZ hown (host := "") (Or.inl (hw _ (List.mem_of_getElem? (i := 102) rfl))) Via.refl e216 f214 f211 (Or.inl (hw _ (List.mem_of_getElem? (i := 103) rfl))) (hw _ (List.mem_of_getElem? (i := 62) rfl)) (ty := .int) (by decide) rfl rfl (g := (mkF m 40 #[.val (.ref a1), .val (.ref a2), .val (.int (Int32.ofNat ds.length))] [(.int (Int32.ofNat (nn + ds.length))), (.ref a1)])) rfl rfl (hb hby aap_d40)
  have O218 := O208.wr W217 g0
  have KP219 := KP209.wr W217 (Or.inl (List.mem_of_getElem? (i := 0) rfl))
  have Zs220 := Nat.le_trans Zs210 (Keep.of_wr W217).1
  have f221 := f211.wr W217
  have f222 := f212.other W217 (Or.inr (slot_ne (Or.inl (hw _ (List.mem_of_getElem? (i := 78) rfl))) (Or.inl (hw _ (List.mem_of_getElem? (i := 103) rfl))) (by decide) (t := .byte) (t' := .int) (by decide) (by decide)))
  have f223 := f213.other W217 (Or.inr (slot_ne (Or.inl (hw _ (List.mem_of_getElem? (i := 76) rfl))) (Or.inl (hw _ (List.mem_of_getElem? (i := 103) rfl))) (by decide) (t := (.array .byte)) (t' := .int) (by decide) (by decide)))
  have f224 := f215.wr W217
  have f225 := V207.other W217 ne1
  have F226 := f214.same W217
  have N227 := Fr.snoc X217 N207 g0
  refine own_back st217 ?_
  show OwnGo p e below (T217.setTop (mkF m 43 #[.val (.ref a1), .val (.ref a2), .val (.int (Int32.ofNat ds.length))] [])) _
  refine own_back (fun t k => XS.aloadN X217.here hx rfl (hb hby aap_d43) rfl rfl k) ?_
  show OwnGo p e below (T217.setTop (mkF m 44 #[.val (.ref a1), .val (.ref a2), .val (.int (Int32.ofNat ds.length))] [(.ref a1)])) _
  refine own_retA X217 hx Bd.notSynchronized Bd.returns rfl rfl (hb hby aap_d44) e217 (Nat.le_of_ble_eq_true rfl) (Nat.le_of_ble_eq_true rfl) ?_
  exact ⟨rfl, N227, KP219, _, f221, f222, f223, F226, f225, f224, by simp only [List.length_append, List.length_take, List.length_drop]; omega, by simp only [List.length_append, List.length_take, List.length_drop]; omega⟩
theorem sap_d0 : decode jdk_67_method_7_code 0 = .ok (.aload_n 0, 1) := by decide +kernel
theorem sap_d1 : decode jdk_67_method_7_code 1 = .ok (.aload_n 1, 1) := by decide +kernel
theorem sap_d2 : decode jdk_67_method_7_code 2 = .ok (.invokespecial 29, 3) := by decide +kernel
theorem sap_d5 : decode jdk_67_method_7_code 5 = .ok (.pop, 1) := by decide +kernel
theorem sap_d6 : decode jdk_67_method_7_code 6 = .ok (.aload_n 0, 1) := by decide +kernel
theorem sap_d7 : decode jdk_67_method_7_code 7 = .ok (.areturn, 1) := by decide +kernel
theorem sap_pn : plainName "java/lang/StringBuilder" = true := by first | (simp [plainName, overriddenIn]; done) | decide +kernel
theorem sap_pd0 : parseMethodDescriptor "(Ljava/lang/String;)Ljava/lang/AbstractStringBuilder;" = some ⟨[(.object "java/lang/String")], some (.object "java/lang/AbstractStringBuilder")⟩ := by decide +kernel
theorem sap_ef (m : MethodId) (x0 : Addr) (x1 : Addr) : entryFrame m #[(.ref x0), (.ref x1)] 2 = mkF m 0 #[.val (.ref x0), .val (.ref x1)] [] := by first | (simp [entryFrame, mkF, argsToLocals, Value.category]; done) | rfl
set_option maxRecDepth 65536 in
set_option maxHeartbeats 40000000 in
theorem rm_sap (l : Launch) (Z : State) (a0 : Array Value) (hw : ∀ d ∈ tables_1, d.before a0 Z = true) (ws : List Jvm.Cond) (a1 : Addr) (t1 : Addr) (us : List Int32) (nn : Nat) (a2 : Addr) (ds : List Int32) (cz : Int32) (h0 : Heap) (n0 : Nat) (Z0 : n0 ≤ h0.size) (OL : Old Z n0 h0) (B1 : OwnBd Z h0 a1 t1 us nn) (B2 : OwnStr Z h0 a2 ds) (g0 : n0 ≤ a1) (g1 : n0 ≤ t1) (hn_ : nn + ds.length ≤ us.length) (SC : Sta Z Z.heap "java/lang/String" "COMPACT_STRINGS" "Z" (.int cz)) (hcz : ¬ cz = 0) :
    MetFree l (⟨"java/lang/StringBuilder", "append", "(Ljava/lang/String;)Ljava/lang/StringBuilder;"⟩ : MethodName) (head1 (Jvm.Cond.code (⟨"java/lang/StringBuilder", "append", "(Ljava/lang/String;)Ljava/lang/StringBuilder;"⟩ : MethodName) jdk_67_method_7_code 2 (some (.object "java/lang/StringBuilder")) :: ws) ({ frames := 4, cells := 0, slots := 0, locals := 135 } : Room)) (fun a U => a = #[(.ref a1), (.ref a2)] ∧ Z.Warmed39 U.vm ∧ U.heap = h0) (fun _ _ _ _ _ => True) (fun _ U o U' => OwnEnd U (fun v h L => v = some (.ref a1) ∧ Fr n0 L ∧ Keep h0 h [a1, t1] ∧ OwnBd Z h a1 t1 (us.take nn ++ ds ++ us.drop (nn + ds.length)) (nn + ds.length)) ({ frames := 4, cells := 0, slots := 0, locals := 135 } : Room).cells ({ frames := 4, cells := 0, slots := 0, locals := 135 } : Room).slots o U') := by
  refine MetFree.of_bodySF (plainFor_of_name sap_pn) hisR ?_
  intro p e s m args below meth c s₁ Bd hml0 hP hK
  obtain ⟨rfl, hZ, hh⟩ := hP
  have hx := Bd.exec
  have hby := Bd.bytes
  have hml : c.maxLocals = 2 := hml0
  have hown : s.vm.findClass "java/lang/StringBuilder" = some m.cls := findClass_of_methodNamed Bd.named
  have hnm := (name_of_methodNamed Bd.named Bd.method).1
  have X0 : Stand p l e ({ frames := 4, cells := 0, slots := 0, locals := 135 } : Room) s m #[(.ref a1), (.ref a2)] below meth c s₁ [] 0 0 := Stand.of_body Bd
  have e0 : s₁.heap = h0 := by rw [← hh, Bd.state]; rfl
  have N0 := Fr.nil n0
  have KP0 := Keep.refl h0 [a1, t1]
  refine own_go (Q := (OwnEnd s (fun v h L => v = some (.ref a1) ∧ Fr n0 L ∧ Keep h0 h [a1, t1] ∧ OwnBd Z h a1 t1 (us.take nn ++ ds ++ us.drop (nn + ds.length)) (nn + ds.length)) ({ frames := 4, cells := 0, slots := 0, locals := 135 } : Room).cells ({ frames := 4, cells := 0, slots := 0, locals := 135 } : Room).slots)) ?_
  refine own_back (fun t k => castTop (sap_ef m a1 a2) k) ?_
  show OwnGo p e below (s₁.setTop (mkF m 0 #[.val (.ref a1), .val (.ref a2)] [])) _
  obtain ⟨k1, E1, C1, F1, N1, V1, X1, m1, m2⟩ := id B1
  refine own_back (fun t k => XS.aloadN X0.here hx rfl (hb hby sap_d0) rfl rfl k) ?_
  show OwnGo p e below (s₁.setTop (mkF m 1 #[.val (.ref a1), .val (.ref a2)] [(.ref a1)])) _
  refine own_back (fun t k => XS.aloadN X0.here hx rfl (hb hby sap_d1) rfl rfl k) ?_
  show OwnGo p e below (s₁.setTop (mkF m 2 #[.val (.ref a1), .val (.ref a2)] [(.ref a2), (.ref a1)])) _
  obtain ⟨_, _, ⟨T228, L228, k228, n228⟩, -, X228, ⟨Lc228, hQ228, l228, y228, z228⟩, st228⟩ := superBack X0 hx hZ (y := (⟨"java/lang/AbstractStringBuilder", "append", "(Ljava/lang/String;)Ljava/lang/AbstractStringBuilder;"⟩ : MethodName)) hown (hw _ (List.mem_of_getElem? (i := 84) rfl)) (own_sameZ (hw _ (List.mem_of_getElem? (i := 87) rfl)) (own_decl (hw _ (List.mem_of_getElem? (i := 105) rfl)) (hw _ (List.mem_of_getElem? (i := 108) rfl))) (hw _ (List.mem_of_getElem? (i := 107) rfl)) rfl (by decide)) (hw _ (List.mem_of_getElem? (i := 85) rfl)) (hw _ (List.mem_of_getElem? (i := 86) rfl)) (by decide) (own_backN (W := 0) (rm_aap l Z a0 hw [] a1 t1 us nn a2 ds cz h0 n0 Z0 OL B1 B2 g0 g1 hn_ SC hcz) hZ (hw _ (List.mem_of_getElem? (i := 88) rfl)) (hw _ (List.mem_of_getElem? (i := 71) rfl)) (by decide) (by decide)) e0 (Ins.self E1) (g := (mkF m 2 #[.val (.ref a1), .val (.ref a2)] [(.ref a2), (.ref a1)])) rfl (by rw [hml]; rfl) (hw _ (List.mem_of_getElem? (i := 88) rfl)) (argsL := [(.ref a2)]) (rest := []) (lenOf sap_pd0 rfl) rfl (by show 2 * 0 + _ ≤ _; exact Nat.le_of_eq rfl) (hb hby sap_d2) (fun _ _ => ⟨rfl, e0, Nat.le_of_ble_eq_true rfl, Nat.le_of_ble_eq_true rfl⟩)
  dsimp only [Pt.U, Pt.locs, Pt.cells, Pt.slots] at X228 l228 y228 z228 st228 hQ228
  subst l228 y228 z228
  obtain ⟨rfl, N228q, K228, Q228⟩ := hQ228
  refine own_seq st228 ?_
  have N228 := Fr.app N0 N228q
  have O229 := OL.keep K228 (allS g0 (allS g1 all0))
  have KP230 := KP0.trans K228 (allS (Or.inl (List.mem_of_getElem? (i := 0) rfl)) (allS (Or.inl (List.mem_of_getElem? (i := 1) rfl)) all0))
  have Zs231 := Nat.le_trans Z0 K228.1
  show OwnGo p e below (T228.setTop (mkF m 5 #[.val (.ref a1), .val (.ref a2)] [(.ref a1)])) _
  refine own_back (fun t k => XS.pop X228.here hx rfl (hb hby sap_d5) rfl rfl k) ?_
  show OwnGo p e below (T228.setTop (mkF m 6 #[.val (.ref a1), .val (.ref a2)] [])) _
  refine own_back (fun t k => XS.aloadN X228.here hx rfl (hb hby sap_d6) rfl rfl k) ?_
  show OwnGo p e below (T228.setTop (mkF m 7 #[.val (.ref a1), .val (.ref a2)] [(.ref a1)])) _
  refine own_retA X228 hx Bd.notSynchronized Bd.returns rfl rfl (hb hby sap_d7) rfl (Nat.le_of_ble_eq_true rfl) (Nat.le_of_ble_eq_true rfl) ?_
  exact ⟨rfl, N228, KP230, Q228⟩
theorem asbi16_d0 : decode jdk_68_method_2_code 0 = .ok (.aload_n 0, 1) := by decide +kernel
theorem asbi16_d1 : decode jdk_68_method_2_code 1 = .ok (.invokespecial 3, 3) := by decide +kernel
theorem asbi16_d4 : decode jdk_68_method_2_code 4 = .ok (.getstatic 18, 3) := by decide +kernel
theorem asbi16_d7 : decode jdk_68_method_2_code 7 = .ok (.ifCond .eq 18, 3) := by decide +kernel
theorem asbi16_d10 : decode jdk_68_method_2_code 10 = .ok (.aload_n 0, 1) := by decide +kernel
theorem asbi16_d11 : decode jdk_68_method_2_code 11 = .ok (.iload_n 1, 1) := by decide +kernel
theorem asbi16_d12 : decode jdk_68_method_2_code 12 = .ok (.newarray .byte, 2) := by decide +kernel
theorem asbi16_d14 : decode jdk_68_method_2_code 14 = .ok (.putfield 15, 3) := by decide +kernel
theorem asbi16_d17 : decode jdk_68_method_2_code 17 = .ok (.aload_n 0, 1) := by decide +kernel
theorem asbi16_d18 : decode jdk_68_method_2_code 18 = .ok (.iconst 0, 1) := by decide +kernel
theorem asbi16_d19 : decode jdk_68_method_2_code 19 = .ok (.putfield 22, 3) := by decide +kernel
theorem asbi16_d22 : decode jdk_68_method_2_code 22 = .ok (.goto 16, 3) := by decide +kernel
theorem asbi16_d38 : decode jdk_68_method_2_code 38 = .ok (.return_, 1) := by decide +kernel
theorem asbi16_pn : plainName "java/lang/AbstractStringBuilder" = true := by first | (simp [plainName, overriddenIn]; done) | decide +kernel
theorem asbi16_ef (m : MethodId) (x0 : Addr) (x1 : Int32) : entryFrame m #[(.ref x0), (.int x1)] 2 = mkF m 0 #[.val (.ref x0), .val (.int x1)] [] := by first | (simp [entryFrame, mkF, argsToLocals, Value.category]; done) | rfl
set_option maxRecDepth 65536 in
set_option maxHeartbeats 40000000 in
theorem rm_asbi16 (l : Launch) (Z : State) (a0 : Array Value) (hw : ∀ d ∈ tables_1, d.before a0 Z = true) (ws : List Jvm.Cond) (a1 : Addr) (cz : Int32) (h0 : Heap) (n0 : Nat) (Z0 : n0 ≤ h0.size) (OL : Old Z n0 h0) (E1 : Exa Z h0 a1 "java/lang/StringBuilder") (C1 : Fld Z h0 a1 "java/lang/AbstractStringBuilder" "coder" "B" (.int 0)) (F1 : Fld Z h0 a1 "java/lang/AbstractStringBuilder" "value" "[B" .null) (N1 : Fld Z h0 a1 "java/lang/AbstractStringBuilder" "count" "I" (.int 0)) (g1 : n0 ≤ a1) (SC : Sta Z Z.heap "java/lang/String" "COMPACT_STRINGS" "Z" (.int cz)) (hcz : ¬ cz = 0) :
    MetFree l (⟨"java/lang/AbstractStringBuilder", "<init>", "(I)V"⟩ : MethodName) (head1 (Jvm.Cond.code (⟨"java/lang/AbstractStringBuilder", "<init>", "(I)V"⟩ : MethodName) jdk_68_method_2_code 2 none :: ws) ({ frames := 1, cells := 1, slots := 16, locals := 14 } : Room)) (fun a U => a = #[(.ref a1), (.int (16 : Int32))] ∧ Z.Warmed39 U.vm ∧ U.heap = h0) (fun _ _ _ _ _ => True) (fun _ U o U' => OwnEnd U (fun v h L => v = none ∧ Fr n0 L ∧ Keep h0 h [a1] ∧ ∃ t, h0.size ≤ t ∧ OwnBd Z h a1 t [0, 0, 0, 0, 0, 0, 0, 0, 0, 0, 0, 0, 0, 0, 0, 0] 0) ({ frames := 1, cells := 1, slots := 16, locals := 14 } : Room).cells ({ frames := 1, cells := 1, slots := 16, locals := 14 } : Room).slots o U') := by
  refine MetFree.of_bodySF (plainFor_of_name asbi16_pn) hisR ?_
  intro p e s m args below meth c s₁ Bd hml0 hP hK
  obtain ⟨rfl, hZ, hh⟩ := hP
  have hx := Bd.exec
  have hby := Bd.bytes
  have hml : c.maxLocals = 2 := hml0
  have hown : s.vm.findClass "java/lang/AbstractStringBuilder" = some m.cls := findClass_of_methodNamed Bd.named
  have hnm := (name_of_methodNamed Bd.named Bd.method).1
  have X0 : Stand p l e ({ frames := 1, cells := 1, slots := 16, locals := 14 } : Room) s m #[(.ref a1), (.int (16 : Int32))] below meth c s₁ [] 0 0 := Stand.of_body Bd
  have e0 : s₁.heap = h0 := by rw [← hh, Bd.state]; rfl
  have N0 := Fr.nil n0
  have KP0 := Keep.refl h0 [a1]
  refine own_go (Q := (OwnEnd s (fun v h L => v = none ∧ Fr n0 L ∧ Keep h0 h [a1] ∧ ∃ t, h0.size ≤ t ∧ OwnBd Z h a1 t [0, 0, 0, 0, 0, 0, 0, 0, 0, 0, 0, 0, 0, 0, 0, 0] 0) ({ frames := 1, cells := 1, slots := 16, locals := 14 } : Room).cells ({ frames := 1, cells := 1, slots := 16, locals := 14 } : Room).slots)) ?_
  refine own_back (fun t k => castTop (asbi16_ef m a1 (16 : Int32)) k) ?_
  show OwnGo p e below (s₁.setTop (mkF m 0 #[.val (.ref a1), .val (.int (16 : Int32))] [])) _
  refine own_back (fun t k => XS.aloadN X0.here hx rfl (hb hby asbi16_d0) rfl rfl k) ?_
  show OwnGo p e below (s₁.setTop (mkF m 1 #[.val (.ref a1), .val (.int (16 : Int32))] [(.ref a1)])) _
  obtain ⟨T232, X232, e232, st232⟩ := initO X0 hx hZ hown (hw _ (List.mem_of_getElem? (i := 73) rfl)) (hw _ (List.mem_of_getElem? (i := 22) rfl)) (hw _ (List.mem_of_getElem? (i := 23) rfl)) e0 (g := (mkF m 1 #[.val (.ref a1), .val (.int (16 : Int32))] [(.ref a1)])) rfl (by rw [hml]; rfl) rfl (hb hby asbi16_d1) (by decide) (W := 0) (by show 2 * 0 + _ ≤ _; exact Nat.le_of_eq rfl) (by decide)
  refine own_back st232 ?_
  show OwnGo p e below (T232.setTop (mkF m 4 #[.val (.ref a1), .val (.int (16 : Int32))] [])) _
  obtain ⟨T233, X233, e233, st233⟩ := getS2 X232 hx hZ hown (host := "") (Or.inl (hw _ (List.mem_of_getElem? (i := 74) rfl))) Via.refl e232 (SC.ext OL.2) (g := (mkF m 4 #[.val (.ref a1), .val (.int (16 : Int32))] [])) rfl (hb hby asbi16_d4)
  refine own_back st233 ?_
  show OwnGo p e below (T233.setTop (mkF m 7 #[.val (.ref a1), .val (.int (16 : Int32))] [(.int cz)])) _
  refine own_back (fun t k => XS.ifNo X233.here hx rfl (hb hby asbi16_d7) rfl (Jvm.Free.XT.i0_eq_f hcz) k) ?_
  show OwnGo p e below (T233.setTop (mkF m 10 #[.val (.ref a1), .val (.int (16 : Int32))] [])) _
  refine own_back (fun t k => XS.aloadN X233.here hx rfl (hb hby asbi16_d10) rfl rfl k) ?_
  show OwnGo p e below (T233.setTop (mkF m 11 #[.val (.ref a1), .val (.int (16 : Int32))] [(.ref a1)])) _
  refine own_back (fun t k => XS.iloadN X233.here hx rfl (hb hby asbi16_d11) rfl k) ?_
  show OwnGo p e below (T233.setTop (mkF m 12 #[.val (.ref a1), .val (.int (16 : Int32))] [(.int (16 : Int32)), (.ref a1)])) _
  obtain ⟨T234, h234, k234, X234, e234, E234, A234, EA234, st234⟩ := newPE X233 hx hZ (hw _ (List.mem_of_getElem? (i := 12) rfl)) e233 (g := (mkF m 12 #[.val (.ref a1), .val (.int (16 : Int32))] [(.int (16 : Int32)), (.ref a1)])) rfl (hb hby asbi16_d12) rfl (by decide) (cap := 16) (by decide) (by decide) (Nat.le_of_ble_eq_true rfl) (Nat.le_of_ble_eq_true rfl) (ad := "[B") (by decide)
  obtain ⟨b234, g234⟩ : ∃ z, z = h0.size := ⟨_, rfl⟩
  have ge235 : n0 ≤ b234 := Nat.le_trans Z0 (Nat.le_of_eq g234.symm)
  have sz236 : h0.size ≤ b234 := Nat.le_trans KP0.1 (Nat.le_of_eq g234.symm)
  rw [← g234] at A234 EA234 st234
  have O237 := OL.ext E234
  have KP238 := KP0.ext E234
  have Zs239 := Nat.le_trans Z0 E234.1
  have f240 := E1.ext E234
  have f241 := C1.ext E234
  have f242 := F1.ext E234
  have f243 := N1.ext E234
  have V244 : Arv Z h234 b234 k234 .byte (16 : Int32) [(.int (0 : Int32)), (.int (0 : Int32)), (.int (0 : Int32)), (.int (0 : Int32)), (.int (0 : Int32)), (.int (0 : Int32)), (.int (0 : Int32)), (.int (0 : Int32)), (.int (0 : Int32)), (.int (0 : Int32)), (.int (0 : Int32)), (.int (0 : Int32)), (.int (0 : Int32)), (.int (0 : Int32)), (.int (0 : Int32)), (.int (0 : Int32))] (.int (0 : Int32)) := (Arv.new A234 (by decide)).pad (pad_rep [] (.int (0 : Int32)) 16)
  refine own_back st234 ?_
  show OwnGo p e below (T234.setTop (mkF m 14 #[.val (.ref a1), .val (.int (16 : Int32))] [(.ref b234), (.ref a1)])) _
  obtain ⟨T245, h245, X245, e245, W245, st245⟩ := putF X234 hx hZ hown (host := "") (Or.inl (hw _ (List.mem_of_getElem? (i := 75) rfl))) Via.refl e234 f242 f240 (Or.inl (hw _ (List.mem_of_getElem? (i := 76) rfl))) (hw _ (List.mem_of_getElem? (i := 62) rfl)) (ty := (.array .byte)) (by decide) rfl rfl (g := (mkF m 14 #[.val (.ref a1), .val (.int (16 : Int32))] [(.ref b234), (.ref a1)])) rfl rfl (hb hby asbi16_d14)
  have O246 := O237.wr W245 g1
  have KP247 := KP238.wr W245 (Or.inl (List.mem_of_getElem? (i := 0) rfl))
  have Zs248 := Nat.le_trans Zs239 (Keep.of_wr W245).1
  have f249 := f240.wr W245
  have f250 := f241.other W245 (Or.inr (slot_ne (Or.inl (hw _ (List.mem_of_getElem? (i := 78) rfl))) (Or.inl (hw _ (List.mem_of_getElem? (i := 76) rfl))) (by decide) (t := .byte) (t' := (.array .byte)) (by decide) (by decide)))
  have f251 := f243.other W245 (Or.inr (slot_ne (Or.inl (hw _ (List.mem_of_getElem? (i := 103) rfl))) (Or.inl (hw _ (List.mem_of_getElem? (i := 76) rfl))) (by decide) (t := .int) (t' := (.array .byte)) (by decide) (by decide)))
  have f252 := V244.other W245 (Ne.symm (Nat.ne_of_lt (Nat.lt_of_lt_of_le E1.lt (Nat.le_of_eq g234.symm))))
  have f253 := EA234.wr W245
  have F254 := f242.same W245
  have N255 := Fr.snoc X245 N0 g1
  refine own_back st245 ?_
  show OwnGo p e below (T245.setTop (mkF m 17 #[.val (.ref a1), .val (.int (16 : Int32))] [])) _
  refine own_back (fun t k => XS.aloadN X245.here hx rfl (hb hby asbi16_d17) rfl rfl k) ?_
  show OwnGo p e below (T245.setTop (mkF m 18 #[.val (.ref a1), .val (.int (16 : Int32))] [(.ref a1)])) _
  refine own_back (fun t k => XS.iconst X245.here hx rfl (hb hby asbi16_d18) k) ?_
  show OwnGo p e below (T245.setTop (mkF m 19 #[.val (.ref a1), .val (.int (16 : Int32))] [(.int (0 : Int32)), (.ref a1)])) _
  obtain ⟨T256, h256, X256, e256, W256, st256⟩ := putF X245 hx hZ hown (host := "") (Or.inl (hw _ (List.mem_of_getElem? (i := 77) rfl))) Via.refl e245 f250 f249 (Or.inl (hw _ (List.mem_of_getElem? (i := 78) rfl))) (hw _ (List.mem_of_getElem? (i := 62) rfl)) (ty := .byte) (by decide) rfl rfl (g := (mkF m 19 #[.val (.ref a1), .val (.int (16 : Int32))] [(.int (0 : Int32)), (.ref a1)])) rfl rfl (hb hby asbi16_d19)
  have O257 := O246.wr W256 g1
  have KP258 := KP247.wr W256 (Or.inl (List.mem_of_getElem? (i := 0) rfl))
  have Zs259 := Nat.le_trans Zs248 (Keep.of_wr W256).1
  have f260 := f249.wr W256
  have f261 := f251.other W256 (Or.inr (slot_ne (Or.inl (hw _ (List.mem_of_getElem? (i := 103) rfl))) (Or.inl (hw _ (List.mem_of_getElem? (i := 78) rfl))) (by decide) (t := .int) (t' := .byte) (by decide) (by decide)))
  have f262 := f252.other W256 (Ne.symm (Nat.ne_of_lt (Nat.lt_of_lt_of_le E1.lt (Nat.le_of_eq g234.symm))))
  have f263 := f253.wr W256
  have f264 := F254.other W256 (Or.inr (slot_ne (Or.inl (hw _ (List.mem_of_getElem? (i := 76) rfl))) (Or.inl (hw _ (List.mem_of_getElem? (i := 78) rfl))) (by decide) (t := (.array .byte)) (t' := .byte) (by decide) (by decide)))
  have F265 := f250.same W256
  have N266 := Fr.snoc X256 N255 g1
  refine own_back st256 ?_
  show OwnGo p e below (T256.setTop (mkF m 22 #[.val (.ref a1), .val (.int (16 : Int32))] [])) _
  refine own_back (fun t k => XS.goto X256.here hx rfl (pc0 := 22) (pc' := 38) rfl (hb hby asbi16_d22) (by decide) (by decide) k) ?_
  show OwnGo p e below (T256.setTop (mkF m 38 #[.val (.ref a1), .val (.int (16 : Int32))] [])) _
  refine own_retV X256 hx Bd.notSynchronized Bd.returns (hb hby asbi16_d38) e256 (Nat.le_of_ble_eq_true rfl) (Nat.le_of_ble_eq_true rfl) ?_
  exact ⟨rfl, N266, KP258, b234, sz236, _, f260, F265, f264, f261, f262, f263, Nat.le_of_ble_eq_true rfl, Nat.le_of_ble_eq_true rfl⟩
theorem sbi16_d0 : decode jdk_67_method_1_code 0 = .ok (.aload_n 0, 1) := by decide +kernel
theorem sbi16_d1 : decode jdk_67_method_1_code 1 = .ok (.bipush 16, 2) := by decide +kernel
theorem sbi16_d3 : decode jdk_67_method_1_code 3 = .ok (.invokespecial 1, 3) := by decide +kernel
theorem sbi16_d6 : decode jdk_67_method_1_code 6 = .ok (.return_, 1) := by decide +kernel
theorem sbi16_pn : plainName "java/lang/StringBuilder" = true := by first | (simp [plainName, overriddenIn]; done) | decide +kernel
theorem sbi16_pd0 : parseMethodDescriptor "(I)V" = some ⟨[.int], none⟩ := by decide +kernel
theorem sbi16_ef (m : MethodId) (x0 : Addr) : entryFrame m #[(.ref x0)] 1 = mkF m 0 #[.val (.ref x0)] [] := by first | (simp [entryFrame, mkF, argsToLocals, Value.category]; done) | rfl
set_option maxRecDepth 65536 in
set_option maxHeartbeats 40000000 in
theorem rm_sbi16 (l : Launch) (Z : State) (a0 : Array Value) (hw : ∀ d ∈ tables_1, d.before a0 Z = true) (ws : List Jvm.Cond) (a1 : Addr) (cz : Int32) (h0 : Heap) (n0 : Nat) (Z0 : n0 ≤ h0.size) (OL : Old Z n0 h0) (E1 : Exa Z h0 a1 "java/lang/StringBuilder") (C1 : Fld Z h0 a1 "java/lang/AbstractStringBuilder" "coder" "B" (.int 0)) (F1 : Fld Z h0 a1 "java/lang/AbstractStringBuilder" "value" "[B" .null) (N1 : Fld Z h0 a1 "java/lang/AbstractStringBuilder" "count" "I" (.int 0)) (g1 : n0 ≤ a1) (SC : Sta Z Z.heap "java/lang/String" "COMPACT_STRINGS" "Z" (.int cz)) (hcz : ¬ cz = 0) :
    MetFree l (⟨"java/lang/StringBuilder", "<init>", "()V"⟩ : MethodName) (head1 (Jvm.Cond.code (⟨"java/lang/StringBuilder", "<init>", "()V"⟩ : MethodName) jdk_67_method_1_code 1 none :: ws) ({ frames := 2, cells := 1, slots := 16, locals := 30 } : Room)) (fun a U => a = #[(.ref a1)] ∧ Z.Warmed39 U.vm ∧ U.heap = h0) (fun _ _ _ _ _ => True) (fun _ U o U' => OwnEnd U (fun v h L => v = none ∧ Fr n0 L ∧ Keep h0 h [a1] ∧ ∃ t, h0.size ≤ t ∧ OwnBd Z h a1 t [0, 0, 0, 0, 0, 0, 0, 0, 0, 0, 0, 0, 0, 0, 0, 0] 0) ({ frames := 2, cells := 1, slots := 16, locals := 30 } : Room).cells ({ frames := 2, cells := 1, slots := 16, locals := 30 } : Room).slots o U') := by
  refine MetFree.of_bodySF (plainFor_of_name sbi16_pn) hisR ?_
  intro p e s m args below meth c s₁ Bd hml0 hP hK
  obtain ⟨rfl, hZ, hh⟩ := hP
  have hx := Bd.exec
  have hby := Bd.bytes
  have hml : c.maxLocals = 1 := hml0
  have hown : s.vm.findClass "java/lang/StringBuilder" = some m.cls := findClass_of_methodNamed Bd.named
  have hnm := (name_of_methodNamed Bd.named Bd.method).1
  have X0 : Stand p l e ({ frames := 2, cells := 1, slots := 16, locals := 30 } : Room) s m #[(.ref a1)] below meth c s₁ [] 0 0 := Stand.of_body Bd
  have e0 : s₁.heap = h0 := by rw [← hh, Bd.state]; rfl
  have N0 := Fr.nil n0
  have KP0 := Keep.refl h0 [a1]
  refine own_go (Q := (OwnEnd s (fun v h L => v = none ∧ Fr n0 L ∧ Keep h0 h [a1] ∧ ∃ t, h0.size ≤ t ∧ OwnBd Z h a1 t [0, 0, 0, 0, 0, 0, 0, 0, 0, 0, 0, 0, 0, 0, 0, 0] 0) ({ frames := 2, cells := 1, slots := 16, locals := 30 } : Room).cells ({ frames := 2, cells := 1, slots := 16, locals := 30 } : Room).slots)) ?_
  refine own_back (fun t k => castTop (sbi16_ef m a1) k) ?_
  show OwnGo p e below (s₁.setTop (mkF m 0 #[.val (.ref a1)] [])) _
  refine own_back (fun t k => XS.aloadN X0.here hx rfl (hb hby sbi16_d0) rfl rfl k) ?_
  show OwnGo p e below (s₁.setTop (mkF m 1 #[.val (.ref a1)] [(.ref a1)])) _
  refine own_back (fun t k => XS.bipush X0.here hx rfl (hb hby sbi16_d1) k) ?_
  show OwnGo p e below (s₁.setTop (mkF m 3 #[.val (.ref a1)] [(.int (16 : Int32)), (.ref a1)])) _
  obtain ⟨_, _, ⟨T267, L267, k267, n267⟩, -, X267, ⟨Lc267, hQ267, l267, y267, z267⟩, st267⟩ := X0.specialBack hx (y := (⟨"java/lang/AbstractStringBuilder", "<init>", "(I)V"⟩ : MethodName)) rfl hown (mvT hZ (hw _ (List.mem_of_getElem? (i := 67) rfl))) (mvT hZ (hw _ (List.mem_of_getElem? (i := 68) rfl))) (mvT hZ (hw _ (List.mem_of_getElem? (i := 72) rfl))) (by decide) (own_backN (W := 0) (rm_asbi16 l Z a0 hw [] a1 cz h0 n0 Z0 OL E1 C1 F1 N1 g1 SC hcz) hZ (hw _ (List.mem_of_getElem? (i := 72) rfl)) (hw _ (List.mem_of_getElem? (i := 71) rfl)) (by decide) (by decide)) (g := (mkF m 3 #[.val (.ref a1)] [(.int (16 : Int32)), (.ref a1)])) rfl (by rw [hml]; rfl) (Steps.refl _) (a := a1) (argsL := [(.int (16 : Int32))]) (rest := []) (lenOf sbi16_pd0 rfl) rfl (by show 2 * 0 + _ ≤ _; exact Nat.le_of_eq rfl) (hb hby sbi16_d3) (fun _ _ => ⟨rfl, e0, Nat.le_of_ble_eq_true rfl, Nat.le_of_ble_eq_true rfl⟩)
  dsimp only [Pt.U, Pt.locs, Pt.cells, Pt.slots] at X267 l267 y267 z267 st267 hQ267
  subst l267 y267 z267
  obtain ⟨rfl, N267q, K267, Q267⟩ := hQ267
  refine own_seq st267 ?_
  have N267 := Fr.app N0 N267q
  have O268 := OL.keep K267 (allS g1 all0)
  have KP269 := KP0.trans K267 (allS (Or.inl (List.mem_of_getElem? (i := 0) rfl)) all0)
  have Zs270 := Nat.le_trans Z0 K267.1
  show OwnGo p e below (T267.setTop (mkF m 6 #[.val (.ref a1)] [])) _
  refine own_retV X267 hx Bd.notSynchronized Bd.returns (hb hby sbi16_d6) rfl (Nat.le_of_ble_eq_true rfl) (Nat.le_of_ble_eq_true rfl) ?_
  exact ⟨rfl, N267, KP269, Q267⟩
theorem asbi10_d0 : decode jdk_68_method_2_code 0 = .ok (.aload_n 0, 1) := by decide +kernel
theorem asbi10_d1 : decode jdk_68_method_2_code 1 = .ok (.invokespecial 3, 3) := by decide +kernel
theorem asbi10_d4 : decode jdk_68_method_2_code 4 = .ok (.getstatic 18, 3) := by decide +kernel
theorem asbi10_d7 : decode jdk_68_method_2_code 7 = .ok (.ifCond .eq 18, 3) := by decide +kernel
theorem asbi10_d10 : decode jdk_68_method_2_code 10 = .ok (.aload_n 0, 1) := by decide +kernel
theorem asbi10_d11 : decode jdk_68_method_2_code 11 = .ok (.iload_n 1, 1) := by decide +kernel
theorem asbi10_d12 : decode jdk_68_method_2_code 12 = .ok (.newarray .byte, 2) := by decide +kernel
theorem asbi10_d14 : decode jdk_68_method_2_code 14 = .ok (.putfield 15, 3) := by decide +kernel
theorem asbi10_d17 : decode jdk_68_method_2_code 17 = .ok (.aload_n 0, 1) := by decide +kernel
theorem asbi10_d18 : decode jdk_68_method_2_code 18 = .ok (.iconst 0, 1) := by decide +kernel
theorem asbi10_d19 : decode jdk_68_method_2_code 19 = .ok (.putfield 22, 3) := by decide +kernel
theorem asbi10_d22 : decode jdk_68_method_2_code 22 = .ok (.goto 16, 3) := by decide +kernel
theorem asbi10_d38 : decode jdk_68_method_2_code 38 = .ok (.return_, 1) := by decide +kernel
theorem asbi10_pn : plainName "java/lang/AbstractStringBuilder" = true := by first | (simp [plainName, overriddenIn]; done) | decide +kernel
theorem asbi10_ef (m : MethodId) (x0 : Addr) (x1 : Int32) : entryFrame m #[(.ref x0), (.int x1)] 2 = mkF m 0 #[.val (.ref x0), .val (.int x1)] [] := by first | (simp [entryFrame, mkF, argsToLocals, Value.category]; done) | rfl
set_option maxRecDepth 65536 in
set_option maxHeartbeats 40000000 in
theorem rm_asbi10 (l : Launch) (Z : State) (a0 : Array Value) (hw : ∀ d ∈ tables_1, d.before a0 Z = true) (ws : List Jvm.Cond) (a1 : Addr) (cz : Int32) (h0 : Heap) (n0 : Nat) (Z0 : n0 ≤ h0.size) (OL : Old Z n0 h0) (E1 : Exa Z h0 a1 "java/lang/StringBuilder") (C1 : Fld Z h0 a1 "java/lang/AbstractStringBuilder" "coder" "B" (.int 0)) (F1 : Fld Z h0 a1 "java/lang/AbstractStringBuilder" "value" "[B" .null) (N1 : Fld Z h0 a1 "java/lang/AbstractStringBuilder" "count" "I" (.int 0)) (g1 : n0 ≤ a1) (SC : Sta Z Z.heap "java/lang/String" "COMPACT_STRINGS" "Z" (.int cz)) (hcz : ¬ cz = 0) :
    MetFree l (⟨"java/lang/AbstractStringBuilder", "<init>", "(I)V"⟩ : MethodName) (head1 (Jvm.Cond.code (⟨"java/lang/AbstractStringBuilder", "<init>", "(I)V"⟩ : MethodName) jdk_68_method_2_code 2 none :: ws) ({ frames := 1, cells := 1, slots := 10, locals := 14 } : Room)) (fun a U => a = #[(.ref a1), (.int (10 : Int32))] ∧ Z.Warmed39 U.vm ∧ U.heap = h0) (fun _ _ _ _ _ => True) (fun _ U o U' => OwnEnd U (fun v h L => v = none ∧ Fr n0 L ∧ Keep h0 h [a1] ∧ ∃ t, h0.size ≤ t ∧ OwnBd Z h a1 t [0, 0, 0, 0, 0, 0, 0, 0, 0, 0] 0) ({ frames := 1, cells := 1, slots := 10, locals := 14 } : Room).cells ({ frames := 1, cells := 1, slots := 10, locals := 14 } : Room).slots o U') := by
  refine MetFree.of_bodySF (plainFor_of_name asbi10_pn) hisR ?_
  intro p e s m args below meth c s₁ Bd hml0 hP hK
  obtain ⟨rfl, hZ, hh⟩ := hP
  have hx := Bd.exec
  have hby := Bd.bytes
  have hml : c.maxLocals = 2 := hml0
  have hown : s.vm.findClass "java/lang/AbstractStringBuilder" = some m.cls := findClass_of_methodNamed Bd.named
  have hnm := (name_of_methodNamed Bd.named Bd.method).1
  have X0 : Stand p l e ({ frames := 1, cells := 1, slots := 10, locals := 14 } : Room) s m #[(.ref a1), (.int (10 : Int32))] below meth c s₁ [] 0 0 := Stand.of_body Bd
  have e0 : s₁.heap = h0 := by rw [← hh, Bd.state]; rfl
  have N0 := Fr.nil n0
  have KP0 := Keep.refl h0 [a1]
  refine own_go (Q := (OwnEnd s (fun v h L => v = none ∧ Fr n0 L ∧ Keep h0 h [a1] ∧ ∃ t, h0.size ≤ t ∧ OwnBd Z h a1 t [0, 0, 0, 0, 0, 0, 0, 0, 0, 0] 0) ({ frames := 1, cells := 1, slots := 10, locals := 14 } : Room).cells ({ frames := 1, cells := 1, slots := 10, locals := 14 } : Room).slots)) ?_
  refine own_back (fun t k => castTop (asbi10_ef m a1 (10 : Int32)) k) ?_
  show OwnGo p e below (s₁.setTop (mkF m 0 #[.val (.ref a1), .val (.int (10 : Int32))] [])) _
  refine own_back (fun t k => XS.aloadN X0.here hx rfl (hb hby asbi10_d0) rfl rfl k) ?_
  show OwnGo p e below (s₁.setTop (mkF m 1 #[.val (.ref a1), .val (.int (10 : Int32))] [(.ref a1)])) _
  obtain ⟨T271, X271, e271, st271⟩ := initO X0 hx hZ hown (hw _ (List.mem_of_getElem? (i := 73) rfl)) (hw _ (List.mem_of_getElem? (i := 22) rfl)) (hw _ (List.mem_of_getElem? (i := 23) rfl)) e0 (g := (mkF m 1 #[.val (.ref a1), .val (.int (10 : Int32))] [(.ref a1)])) rfl (by rw [hml]; rfl) rfl (hb hby asbi10_d1) (by decide) (W := 0) (by show 2 * 0 + _ ≤ _; exact Nat.le_of_eq rfl) (by decide)
  refine own_back st271 ?_
  show OwnGo p e below (T271.setTop (mkF m 4 #[.val (.ref a1), .val (.int (10 : Int32))] [])) _
  obtain ⟨T272, X272, e272, st272⟩ := getS2 X271 hx hZ hown (host := "") (Or.inl (hw _ (List.mem_of_getElem? (i := 74) rfl))) Via.refl e271 (SC.ext OL.2) (g := (mkF m 4 #[.val (.ref a1), .val (.int (10 : Int32))] [])) rfl (hb hby asbi10_d4)
  refine own_back st272 ?_
  show OwnGo p e below (T272.setTop (mkF m 7 #[.val (.ref a1), .val (.int (10 : Int32))] [(.int cz)])) _
  refine own_back (fun t k => XS.ifNo X272.here hx rfl (hb hby asbi10_d7) rfl (Jvm.Free.XT.i0_eq_f hcz) k) ?_
  show OwnGo p e below (T272.setTop (mkF m 10 #[.val (.ref a1), .val (.int (10 : Int32))] [])) _
  refine own_back (fun t k => XS.aloadN X272.here hx rfl (hb hby asbi10_d10) rfl rfl k) ?_
  show OwnGo p e below (T272.setTop (mkF m 11 #[.val (.ref a1), .val (.int (10 : Int32))] [(.ref a1)])) _
  refine own_back (fun t k => XS.iloadN X272.here hx rfl (hb hby asbi10_d11) rfl k) ?_
  show OwnGo p e below (T272.setTop (mkF m 12 #[.val (.ref a1), .val (.int (10 : Int32))] [(.int (10 : Int32)), (.ref a1)])) _
  obtain ⟨T273, h273, k273, X273, e273, E273, A273, EA273, st273⟩ := newPE X272 hx hZ (hw _ (List.mem_of_getElem? (i := 12) rfl)) e272 (g := (mkF m 12 #[.val (.ref a1), .val (.int (10 : Int32))] [(.int (10 : Int32)), (.ref a1)])) rfl (hb hby asbi10_d12) rfl (by decide) (cap := 10) (by decide) (by decide) (Nat.le_of_ble_eq_true rfl) (Nat.le_of_ble_eq_true rfl) (ad := "[B") (by decide)
  obtain ⟨b273, g273⟩ : ∃ z, z = h0.size := ⟨_, rfl⟩
  have ge274 : n0 ≤ b273 := Nat.le_trans Z0 (Nat.le_of_eq g273.symm)
  have sz275 : h0.size ≤ b273 := Nat.le_trans KP0.1 (Nat.le_of_eq g273.symm)
  rw [← g273] at A273 EA273 st273
  have O276 := OL.ext E273
  have KP277 := KP0.ext E273
  have Zs278 := Nat.le_trans Z0 E273.1
  have f279 := E1.ext E273
  have f280 := C1.ext E273
  have f281 := F1.ext E273
  have f282 := N1.ext E273
  have V283 : Arv Z h273 b273 k273 .byte (10 : Int32) [(.int (0 : Int32)), (.int (0 : Int32)), (.int (0 : Int32)), (.int (0 : Int32)), (.int (0 : Int32)), (.int (0 : Int32)), (.int (0 : Int32)), (.int (0 : Int32)), (.int (0 : Int32)), (.int (0 : Int32))] (.int (0 : Int32)) := (Arv.new A273 (by decide)).pad (pad_rep [] (.int (0 : Int32)) 10)
  refine own_back st273 ?_
  show OwnGo p e below (T273.setTop (mkF m 14 #[.val (.ref a1), .val (.int (10 : Int32))] [(.ref b273), (.ref a1)])) _
  obtain ⟨T284, h284, X284, e284, W284, st284⟩ := putF X273 hx hZ hown (host := "") (Or.inl (hw _ (List.mem_of_getElem? (i := 75) rfl))) Via.refl e273 f281 f279 (Or.inl (hw _ (List.mem_of_getElem? (i := 76) rfl))) (hw _ (List.mem_of_getElem? (i := 62) rfl)) (ty := (.array .byte)) (by decide) rfl rfl (g := (mkF m 14 #[.val (.ref a1), .val (.int (10 : Int32))] [(.ref b273), (.ref a1)])) rfl rfl (hb hby asbi10_d14)
  have O285 := O276.wr W284 g1
  have KP286 := KP277.wr W284 (Or.inl (List.mem_of_getElem? (i := 0) rfl))
  have Zs287 := Nat.le_trans Zs278 (Keep.of_wr W284).1
  have f288 := f279.wr W284
  have f289 := f280.other W284 (Or.inr (slot_ne (Or.inl (hw _ (List.mem_of_getElem? (i := 78) rfl))) (Or.inl (hw _ (List.mem_of_getElem? (i := 76) rfl))) (by decide) (t := .byte) (t' := (.array .byte)) (by decide) (by decide)))
  have f290 := f282.other W284 (Or.inr (slot_ne (Or.inl (hw _ (List.mem_of_getElem? (i := 103) rfl))) (Or.inl (hw _ (List.mem_of_getElem? (i := 76) rfl))) (by decide) (t := .int) (t' := (.array .byte)) (by decide) (by decide)))
  have f291 := V283.other W284 (Ne.symm (Nat.ne_of_lt (Nat.lt_of_lt_of_le E1.lt (Nat.le_of_eq g273.symm))))
  have f292 := EA273.wr W284
  have F293 := f281.same W284
  have N294 := Fr.snoc X284 N0 g1
  refine own_back st284 ?_
  show OwnGo p e below (T284.setTop (mkF m 17 #[.val (.ref a1), .val (.int (10 : Int32))] [])) _
  refine own_back (fun t k => XS.aloadN X284.here hx rfl (hb hby asbi10_d17) rfl rfl k) ?_
  show OwnGo p e below (T284.setTop (mkF m 18 #[.val (.ref a1), .val (.int (10 : Int32))] [(.ref a1)])) _
  refine own_back (fun t k => XS.iconst X284.here hx rfl (hb hby asbi10_d18) k) ?_
  show OwnGo p e below (T284.setTop (mkF m 19 #[.val (.ref a1), .val (.int (10 : Int32))] [(.int (0 : Int32)), (.ref a1)])) _
  obtain ⟨T295, h295, X295, e295, W295, st295⟩ := putF X284 hx hZ hown (host := "") (Or.inl (hw _ (List.mem_of_getElem? (i := 77) rfl))) Via.refl e284 f289 f288 (Or.inl (hw _ (List.mem_of_getElem? (i := 78) rfl))) (hw _ (List.mem_of_getElem? (i := 62) rfl)) (ty := .byte) (by decide) rfl rfl (g := (mkF m 19 #[.val (.ref a1), .val (.int (10 : Int32))] [(.int (0 : Int32)), (.ref a1)])) rfl rfl (hb hby asbi10_d19)
  have O296 := O285.wr W295 g1
  have KP297 := KP286.wr W295 (Or.inl (List.mem_of_getElem? (i := 0) rfl))
  have Zs298 := Nat.le_trans Zs287 (Keep.of_wr W295).1
  have f299 := f288.wr W295
  have f300 := f290.other W295 (Or.inr (slot_ne (Or.inl (hw _ (List.mem_of_getElem? (i := 103) rfl))) (Or.inl (hw _ (List.mem_of_getElem? (i := 78) rfl))) (by decide) (t := .int) (t' := .byte) (by decide) (by decide)))
  have f301 := f291.other W295 (Ne.symm (Nat.ne_of_lt (Nat.lt_of_lt_of_le E1.lt (Nat.le_of_eq g273.symm))))
  have f302 := f292.wr W295
  have f303 := F293.other W295 (Or.inr (slot_ne (Or.inl (hw _ (List.mem_of_getElem? (i := 76) rfl))) (Or.inl (hw _ (List.mem_of_getElem? (i := 78) rfl))) (by decide) (t := (.array .byte)) (t' := .byte) (by decide) (by decide)))
  have F304 := f289.same W295
  have N305 := Fr.snoc X295 N294 g1
  refine own_back st295 ?_
  show OwnGo p e below (T295.setTop (mkF m 22 #[.val (.ref a1), .val (.int (10 : Int32))] [])) _
  refine own_back (fun t k => XS.goto X295.here hx rfl (pc0 := 22) (pc' := 38) rfl (hb hby asbi10_d22) (by decide) (by decide) k) ?_
  show OwnGo p e below (T295.setTop (mkF m 38 #[.val (.ref a1), .val (.int (10 : Int32))] [])) _
  refine own_retV X295 hx Bd.notSynchronized Bd.returns (hb hby asbi10_d38) e295 (Nat.le_of_ble_eq_true rfl) (Nat.le_of_ble_eq_true rfl) ?_
  exact ⟨rfl, N305, KP297, b273, sz275, _, f299, F304, f303, f300, f301, f302, Nat.le_of_ble_eq_true rfl, Nat.le_of_ble_eq_true rfl⟩
theorem sbi10_d0 : decode jdk_67_method_2_code 0 = .ok (.aload_n 0, 1) := by decide +kernel
theorem sbi10_d1 : decode jdk_67_method_2_code 1 = .ok (.iload_n 1, 1) := by decide +kernel
theorem sbi10_d2 : decode jdk_67_method_2_code 2 = .ok (.invokespecial 1, 3) := by decide +kernel
theorem sbi10_d5 : decode jdk_67_method_2_code 5 = .ok (.return_, 1) := by decide +kernel
theorem sbi10_pn : plainName "java/lang/StringBuilder" = true := by first | (simp [plainName, overriddenIn]; done) | decide +kernel
theorem sbi10_pd0 : parseMethodDescriptor "(I)V" = some ⟨[.int], none⟩ := by decide +kernel
theorem sbi10_ef (m : MethodId) (x0 : Addr) (x1 : Int32) : entryFrame m #[(.ref x0), (.int x1)] 2 = mkF m 0 #[.val (.ref x0), .val (.int x1)] [] := by first | (simp [entryFrame, mkF, argsToLocals, Value.category]; done) | rfl
set_option maxRecDepth 65536 in
set_option maxHeartbeats 40000000 in
theorem rm_sbi10 (l : Launch) (Z : State) (a0 : Array Value) (hw : ∀ d ∈ tables_1, d.before a0 Z = true) (ws : List Jvm.Cond) (a1 : Addr) (cz : Int32) (h0 : Heap) (n0 : Nat) (Z0 : n0 ≤ h0.size) (OL : Old Z n0 h0) (E1 : Exa Z h0 a1 "java/lang/StringBuilder") (C1 : Fld Z h0 a1 "java/lang/AbstractStringBuilder" "coder" "B" (.int 0)) (F1 : Fld Z h0 a1 "java/lang/AbstractStringBuilder" "value" "[B" .null) (N1 : Fld Z h0 a1 "java/lang/AbstractStringBuilder" "count" "I" (.int 0)) (g1 : n0 ≤ a1) (SC : Sta Z Z.heap "java/lang/String" "COMPACT_STRINGS" "Z" (.int cz)) (hcz : ¬ cz = 0) :
    MetFree l (⟨"java/lang/StringBuilder", "<init>", "(I)V"⟩ : MethodName) (head1 (Jvm.Cond.code (⟨"java/lang/StringBuilder", "<init>", "(I)V"⟩ : MethodName) jdk_67_method_2_code 2 none :: ws) ({ frames := 2, cells := 1, slots := 10, locals := 30 } : Room)) (fun a U => a = #[(.ref a1), (.int (10 : Int32))] ∧ Z.Warmed39 U.vm ∧ U.heap = h0) (fun _ _ _ _ _ => True) (fun _ U o U' => OwnEnd U (fun v h L => v = none ∧ Fr n0 L ∧ Keep h0 h [a1] ∧ ∃ t, h0.size ≤ t ∧ OwnBd Z h a1 t [0, 0, 0, 0, 0, 0, 0, 0, 0, 0] 0) ({ frames := 2, cells := 1, slots := 10, locals := 30 } : Room).cells ({ frames := 2, cells := 1, slots := 10, locals := 30 } : Room).slots o U') := by
  refine MetFree.of_bodySF (plainFor_of_name sbi10_pn) hisR ?_
  intro p e s m args below meth c s₁ Bd hml0 hP hK
  obtain ⟨rfl, hZ, hh⟩ := hP
  have hx := Bd.exec
  have hby := Bd.bytes
  have hml : c.maxLocals = 2 := hml0
  have hown : s.vm.findClass "java/lang/StringBuilder" = some m.cls := findClass_of_methodNamed Bd.named
  have hnm := (name_of_methodNamed Bd.named Bd.method).1
  have X0 : Stand p l e ({ frames := 2, cells := 1, slots := 10, locals := 30 } : Room) s m #[(.ref a1), (.int (10 : Int32))] below meth c s₁ [] 0 0 := Stand.of_body Bd
  have e0 : s₁.heap = h0 := by rw [← hh, Bd.state]; rfl
  have N0 := Fr.nil n0
  have KP0 := Keep.refl h0 [a1]
  refine own_go (Q := (OwnEnd s (fun v h L => v = none ∧ Fr n0 L ∧ Keep h0 h [a1] ∧ ∃ t, h0.size ≤ t ∧ OwnBd Z h a1 t [0, 0, 0, 0, 0, 0, 0, 0, 0, 0] 0) ({ frames := 2, cells := 1, slots := 10, locals := 30 } : Room).cells ({ frames := 2, cells := 1, slots := 10, locals := 30 } : Room).slots)) ?_
  refine own_back (fun t k => castTop (sbi10_ef m a1 (10 : Int32)) k) ?_
  show OwnGo p e below (s₁.setTop (mkF m 0 #[.val (.ref a1), .val (.int (10 : Int32))] [])) _
  refine own_back (fun t k => XS.aloadN X0.here hx rfl (hb hby sbi10_d0) rfl rfl k) ?_
  show OwnGo p e below (s₁.setTop (mkF m 1 #[.val (.ref a1), .val (.int (10 : Int32))] [(.ref a1)])) _
  refine own_back (fun t k => XS.iloadN X0.here hx rfl (hb hby sbi10_d1) rfl k) ?_
  show OwnGo p e below (s₁.setTop (mkF m 2 #[.val (.ref a1), .val (.int (10 : Int32))] [(.int (10 : Int32)), (.ref a1)])) _
  obtain ⟨_, _, ⟨T306, L306, k306, n306⟩, -, X306, ⟨Lc306, hQ306, l306, y306, z306⟩, st306⟩ := X0.specialBack hx (y := (⟨"java/lang/AbstractStringBuilder", "<init>", "(I)V"⟩ : MethodName)) rfl hown (mvT hZ (hw _ (List.mem_of_getElem? (i := 67) rfl))) (mvT hZ (hw _ (List.mem_of_getElem? (i := 68) rfl))) (mvT hZ (hw _ (List.mem_of_getElem? (i := 72) rfl))) (by decide) (own_backN (W := 0) (rm_asbi10 l Z a0 hw [] a1 cz h0 n0 Z0 OL E1 C1 F1 N1 g1 SC hcz) hZ (hw _ (List.mem_of_getElem? (i := 72) rfl)) (hw _ (List.mem_of_getElem? (i := 71) rfl)) (by decide) (by decide)) (g := (mkF m 2 #[.val (.ref a1), .val (.int (10 : Int32))] [(.int (10 : Int32)), (.ref a1)])) rfl (by rw [hml]; rfl) (Steps.refl _) (a := a1) (argsL := [(.int (10 : Int32))]) (rest := []) (lenOf sbi10_pd0 rfl) rfl (by show 2 * 0 + _ ≤ _; exact Nat.le_of_eq rfl) (hb hby sbi10_d2) (fun _ _ => ⟨rfl, e0, Nat.le_of_ble_eq_true rfl, Nat.le_of_ble_eq_true rfl⟩)
  dsimp only [Pt.U, Pt.locs, Pt.cells, Pt.slots] at X306 l306 y306 z306 st306 hQ306
  subst l306 y306 z306
  obtain ⟨rfl, N306q, K306, Q306⟩ := hQ306
  refine own_seq st306 ?_
  have N306 := Fr.app N0 N306q
  have O307 := OL.keep K306 (allS g1 all0)
  have KP308 := KP0.trans K306 (allS (Or.inl (List.mem_of_getElem? (i := 0) rfl)) all0)
  have Zs309 := Nat.le_trans Z0 K306.1
  show OwnGo p e below (T306.setTop (mkF m 5 #[.val (.ref a1), .val (.int (10 : Int32))] [])) _
  refine own_retV X306 hx Bd.notSynchronized Bd.returns (hb hby sbi10_d5) rfl (Nat.le_of_ble_eq_true rfl) (Nat.le_of_ble_eq_true rfl) ?_
  exact ⟨rfl, N306, KP308, Q306⟩
abbrev own_ones : List Value := (List.range 100).map fun i => .int (Int32.ofNat (48 + i % 10))
abbrev own_tens : List Value := (List.range 100).map fun i => .int (Int32.ofNat (48 + i / 10))
theorem ss1970_d0 : decode jdk_33_method_13_code 0 = .ok (.iconst 1, 1) := by decide +kernel
theorem ss1970_d1 : decode jdk_33_method_13_code 1 = .ok (.istore_n 1, 1) := by decide +kernel
theorem ss1970_d2 : decode jdk_33_method_13_code 2 = .ok (.iload_n 0, 1) := by decide +kernel
theorem ss1970_d3 : decode jdk_33_method_13_code 3 = .ok (.ifCond .lt 8, 3) := by decide +kernel
theorem ss1970_d6 : decode jdk_33_method_13_code 6 = .ok (.iconst 0, 1) := by decide +kernel
theorem ss1970_d7 : decode jdk_33_method_13_code 7 = .ok (.istore_n 1, 1) := by decide +kernel
theorem ss1970_d8 : decode jdk_33_method_13_code 8 = .ok (.iload_n 0, 1) := by decide +kernel
theorem ss1970_d9 : decode jdk_33_method_13_code 9 = .ok (.ineg, 1) := by decide +kernel
theorem ss1970_d10 : decode jdk_33_method_13_code 10 = .ok (.istore_n 0, 1) := by decide +kernel
theorem ss1970_d11 : decode jdk_33_method_13_code 11 = .ok (.bipush (-10), 2) := by decide +kernel
theorem ss1970_d13 : decode jdk_33_method_13_code 13 = .ok (.istore_n 2, 1) := by decide +kernel
theorem ss1970_d14 : decode jdk_33_method_13_code 14 = .ok (.iconst 1, 1) := by decide +kernel
theorem ss1970_d15 : decode jdk_33_method_13_code 15 = .ok (.istore_n 3, 1) := by decide +kernel
theorem ss1970_d16 : decode jdk_33_method_13_code 16 = .ok (.iload_n 3, 1) := by decide +kernel
theorem ss1970_d17 : decode jdk_33_method_13_code 17 = .ok (.bipush 10, 2) := by decide +kernel
theorem ss1970_d19 : decode jdk_33_method_13_code 19 = .ok (.if_icmp .ge 23, 3) := by decide +kernel
theorem ss1970_d22 : decode jdk_33_method_13_code 22 = .ok (.iload_n 0, 1) := by decide +kernel
theorem ss1970_d23 : decode jdk_33_method_13_code 23 = .ok (.iload_n 2, 1) := by decide +kernel
theorem ss1970_d24 : decode jdk_33_method_13_code 24 = .ok (.if_icmp .le 7, 3) := by decide +kernel
theorem ss1970_d27 : decode jdk_33_method_13_code 27 = .ok (.iload_n 3, 1) := by decide +kernel
theorem ss1970_d28 : decode jdk_33_method_13_code 28 = .ok (.iload_n 1, 1) := by decide +kernel
theorem ss1970_d29 : decode jdk_33_method_13_code 29 = .ok (.iadd, 1) := by decide +kernel
theorem ss1970_d30 : decode jdk_33_method_13_code 30 = .ok (.ireturn, 1) := by decide +kernel
theorem ss1970_d31 : decode jdk_33_method_13_code 31 = .ok (.bipush 10, 2) := by decide +kernel
theorem ss1970_d33 : decode jdk_33_method_13_code 33 = .ok (.iload_n 2, 1) := by decide +kernel
theorem ss1970_d34 : decode jdk_33_method_13_code 34 = .ok (.imul, 1) := by decide +kernel
theorem ss1970_d35 : decode jdk_33_method_13_code 35 = .ok (.istore_n 2, 1) := by decide +kernel
theorem ss1970_d36 : decode jdk_33_method_13_code 36 = .ok (.iinc 3 1, 3) := by decide +kernel
theorem ss1970_d39 : decode jdk_33_method_13_code 39 = .ok (.goto (-23), 3) := by decide +kernel
theorem ss1970_pn : plainName "java/lang/Integer" = true := by first | (simp [plainName, overriddenIn]; done) | decide +kernel
theorem ss1970_ef (m : MethodId) (x0 : Int32) : entryFrame m #[(.int x0)] 4 = mkF m 0 #[.val (.int x0), .unset, .unset, .unset] [] := by first | (simp [entryFrame, mkF, argsToLocals, Value.category]; done) | rfl
set_option maxRecDepth 65536 in
set_option maxHeartbeats 40000000 in
theorem rm_ss1970 (l : Launch) (Z : State) (a0 : Array Value) (hw : ∀ d ∈ tables_1, d.before a0 Z = true) (ws : List Jvm.Cond)  (h0 : Heap) (n0 : Nat) (Z0 : n0 ≤ h0.size)  :
    MetFree l (⟨"java/lang/Integer", "stringSize", "(I)I"⟩ : MethodName) (head1 (Jvm.Cond.code (⟨"java/lang/Integer", "stringSize", "(I)I"⟩ : MethodName) jdk_33_method_13_code 4 (some .int) :: ws) ({ frames := 0, cells := 0, slots := 0, locals := 0 } : Room)) (fun a U => a = #[(.int (1970 : Int32))] ∧ Z.Warmed39 U.vm ∧ U.heap = h0) (fun _ _ _ _ _ => True) (fun _ U o U' => OwnEnd U (fun v h L => v = some (.int (4 : Int32)) ∧ Fr n0 L ∧ h = h0) ({ frames := 0, cells := 0, slots := 0, locals := 0 } : Room).cells ({ frames := 0, cells := 0, slots := 0, locals := 0 } : Room).slots o U') := by
  refine MetFree.of_bodySF (plainFor_of_name ss1970_pn) hisR ?_
  intro p e s m args below meth c s₁ Bd hml0 hP hK
  obtain ⟨rfl, hZ, hh⟩ := hP
  have hx := Bd.exec
  have hby := Bd.bytes
  have hml : c.maxLocals = 4 := hml0
  have hown : s.vm.findClass "java/lang/Integer" = some m.cls := findClass_of_methodNamed Bd.named
  have hnm := (name_of_methodNamed Bd.named Bd.method).1
  have X0 : Stand p l e ({ frames := 0, cells := 0, slots := 0, locals := 0 } : Room) s m #[(.int (1970 : Int32))] below meth c s₁ [] 0 0 := Stand.of_body Bd
  have e0 : s₁.heap = h0 := by rw [← hh, Bd.state]; rfl
  have N0 := Fr.nil n0
  have KP0 := Keep.refl h0 []
  refine own_go (Q := (OwnEnd s (fun v h L => v = some (.int (4 : Int32)) ∧ Fr n0 L ∧ h = h0) ({ frames := 0, cells := 0, slots := 0, locals := 0 } : Room).cells ({ frames := 0, cells := 0, slots := 0, locals := 0 } : Room).slots)) ?_
  refine own_back (fun t k => castTop (ss1970_ef m (1970 : Int32)) k) ?_
  show OwnGo p e below (s₁.setTop (mkF m 0 #[.val (.int (1970 : Int32)), .unset, .unset, .unset] [])) _
  refine own_back (fun t k => XS.iconst X0.here hx rfl (hb hby ss1970_d0) k) ?_
  show OwnGo p e below (s₁.setTop (mkF m 1 #[.val (.int (1970 : Int32)), .unset, .unset, .unset] [(.int (1 : Int32))])) _
  refine own_back (fun t k => XS.istoreN X0.here hx rfl (hb hby ss1970_d1) rfl (l' := #[.val (.int (1970 : Int32)), .val (.int (1 : Int32)), .unset, .unset]) rfl k) ?_
  show OwnGo p e below (s₁.setTop (mkF m 2 #[.val (.int (1970 : Int32)), .val (.int (1 : Int32)), .unset, .unset] [])) _
  refine own_back (fun t k => XS.iloadN X0.here hx rfl (hb hby ss1970_d2) rfl k) ?_
  show OwnGo p e below (s₁.setTop (mkF m 3 #[.val (.int (1970 : Int32)), .val (.int (1 : Int32)), .unset, .unset] [(.int (1970 : Int32))])) _
  refine own_back (fun t k => XS.ifNo X0.here hx rfl (hb hby ss1970_d3) rfl (Jvm.Free.XT.i0_lt_f (by decide)) k) ?_
  show OwnGo p e below (s₁.setTop (mkF m 6 #[.val (.int (1970 : Int32)), .val (.int (1 : Int32)), .unset, .unset] [])) _
  refine own_back (fun t k => XS.iconst X0.here hx rfl (hb hby ss1970_d6) k) ?_
  show OwnGo p e below (s₁.setTop (mkF m 7 #[.val (.int (1970 : Int32)), .val (.int (1 : Int32)), .unset, .unset] [(.int (0 : Int32))])) _
  refine own_back (fun t k => XS.istoreN X0.here hx rfl (hb hby ss1970_d7) rfl (l' := #[.val (.int (1970 : Int32)), .val (.int (0 : Int32)), .unset, .unset]) rfl k) ?_
  show OwnGo p e below (s₁.setTop (mkF m 8 #[.val (.int (1970 : Int32)), .val (.int (0 : Int32)), .unset, .unset] [])) _
  refine own_back (fun t k => XS.iloadN X0.here hx rfl (hb hby ss1970_d8) rfl k) ?_
  show OwnGo p e below (s₁.setTop (mkF m 9 #[.val (.int (1970 : Int32)), .val (.int (0 : Int32)), .unset, .unset] [(.int (1970 : Int32))])) _
  refine own_back (fun t k => XS.ineg X0.here hx rfl (hb hby ss1970_d9) rfl k) ?_
  show OwnGo p e below (s₁.setTop (mkF m 10 #[.val (.int (1970 : Int32)), .val (.int (0 : Int32)), .unset, .unset] [(.int (-(1970 : Int32)))])) _
  rw [show (-(1970 : Int32)) = (-1970 : Int32) from by decide]
  show OwnGo p e below (s₁.setTop (mkF m 10 #[.val (.int (1970 : Int32)), .val (.int (0 : Int32)), .unset, .unset] [(.int (-1970 : Int32))])) _
  refine own_back (fun t k => XS.istoreN X0.here hx rfl (hb hby ss1970_d10) rfl (l' := #[.val (.int (-1970 : Int32)), .val (.int (0 : Int32)), .unset, .unset]) rfl k) ?_
  show OwnGo p e below (s₁.setTop (mkF m 11 #[.val (.int (-1970 : Int32)), .val (.int (0 : Int32)), .unset, .unset] [])) _
  refine own_back (fun t k => XS.bipush X0.here hx rfl (hb hby ss1970_d11) k) ?_
  show OwnGo p e below (s₁.setTop (mkF m 13 #[.val (.int (-1970 : Int32)), .val (.int (0 : Int32)), .unset, .unset] [(.int (-10 : Int32))])) _
  refine own_back (fun t k => XS.istoreN X0.here hx rfl (hb hby ss1970_d13) rfl (l' := #[.val (.int (-1970 : Int32)), .val (.int (0 : Int32)), .val (.int (-10 : Int32)), .unset]) rfl k) ?_
  show OwnGo p e below (s₁.setTop (mkF m 14 #[.val (.int (-1970 : Int32)), .val (.int (0 : Int32)), .val (.int (-10 : Int32)), .unset] [])) _
  refine own_back (fun t k => XS.iconst X0.here hx rfl (hb hby ss1970_d14) k) ?_
  show OwnGo p e below (s₁.setTop (mkF m 15 #[.val (.int (-1970 : Int32)), .val (.int (0 : Int32)), .val (.int (-10 : Int32)), .unset] [(.int (1 : Int32))])) _
  refine own_back (fun t k => XS.istoreN X0.here hx rfl (hb hby ss1970_d15) rfl (l' := #[.val (.int (-1970 : Int32)), .val (.int (0 : Int32)), .val (.int (-10 : Int32)), .val (.int (1 : Int32))]) rfl k) ?_
  show OwnGo p e below (s₁.setTop (mkF m 16 #[.val (.int (-1970 : Int32)), .val (.int (0 : Int32)), .val (.int (-10 : Int32)), .val (.int (1 : Int32))] [])) _
  refine own_back (fun t k => XS.iloadN X0.here hx rfl (hb hby ss1970_d16) rfl k) ?_
  show OwnGo p e below (s₁.setTop (mkF m 17 #[.val (.int (-1970 : Int32)), .val (.int (0 : Int32)), .val (.int (-10 : Int32)), .val (.int (1 : Int32))] [(.int (1 : Int32))])) _
  refine own_back (fun t k => XS.bipush X0.here hx rfl (hb hby ss1970_d17) k) ?_
  show OwnGo p e below (s₁.setTop (mkF m 19 #[.val (.int (-1970 : Int32)), .val (.int (0 : Int32)), .val (.int (-10 : Int32)), .val (.int (1 : Int32))] [(.int (10 : Int32)), (.int (1 : Int32))])) _
  refine own_back (fun t k => XS.icmpNo X0.here hx rfl (hb hby ss1970_d19) rfl (Jvm.Free.XT.ii_ge_f (by decide)) k) ?_
  show OwnGo p e below (s₁.setTop (mkF m 22 #[.val (.int (-1970 : Int32)), .val (.int (0 : Int32)), .val (.int (-10 : Int32)), .val (.int (1 : Int32))] [])) _
  refine own_back (fun t k => XS.iloadN X0.here hx rfl (hb hby ss1970_d22) rfl k) ?_
  show OwnGo p e below (s₁.setTop (mkF m 23 #[.val (.int (-1970 : Int32)), .val (.int (0 : Int32)), .val (.int (-10 : Int32)), .val (.int (1 : Int32))] [(.int (-1970 : Int32))])) _
  refine own_back (fun t k => XS.iloadN X0.here hx rfl (hb hby ss1970_d23) rfl k) ?_
  show OwnGo p e below (s₁.setTop (mkF m 24 #[.val (.int (-1970 : Int32)), .val (.int (0 : Int32)), .val (.int (-10 : Int32)), .val (.int (1 : Int32))] [(.int (-10 : Int32)), (.int (-1970 : Int32))])) _
  refine own_back (fun t k => XS.icmpYes X0.here hx rfl (pc0 := 24) (pc' := 31) rfl (hb hby ss1970_d24) rfl (Jvm.Free.XT.ii_le_t (by decide)) (by decide) (by decide) k) ?_
  show OwnGo p e below (s₁.setTop (mkF m 31 #[.val (.int (-1970 : Int32)), .val (.int (0 : Int32)), .val (.int (-10 : Int32)), .val (.int (1 : Int32))] [])) _
  refine own_back (fun t k => XS.bipush X0.here hx rfl (hb hby ss1970_d31) k) ?_
  show OwnGo p e below (s₁.setTop (mkF m 33 #[.val (.int (-1970 : Int32)), .val (.int (0 : Int32)), .val (.int (-10 : Int32)), .val (.int (1 : Int32))] [(.int (10 : Int32))])) _
  refine own_back (fun t k => XS.iloadN X0.here hx rfl (hb hby ss1970_d33) rfl k) ?_
  show OwnGo p e below (s₁.setTop (mkF m 34 #[.val (.int (-1970 : Int32)), .val (.int (0 : Int32)), .val (.int (-10 : Int32)), .val (.int (1 : Int32))] [(.int (-10 : Int32)), (.int (10 : Int32))])) _
  refine own_back (fun t k => XS.imul X0.here hx rfl (hb hby ss1970_d34) rfl k) ?_
  show OwnGo p e below (s₁.setTop (mkF m 35 #[.val (.int (-1970 : Int32)), .val (.int (0 : Int32)), .val (.int (-10 : Int32)), .val (.int (1 : Int32))] [(.int ((10 : Int32) * (-10 : Int32)))])) _
  rw [show ((10 : Int32) * (-10 : Int32)) = (-100 : Int32) from by decide]
  show OwnGo p e below (s₁.setTop (mkF m 35 #[.val (.int (-1970 : Int32)), .val (.int (0 : Int32)), .val (.int (-10 : Int32)), .val (.int (1 : Int32))] [(.int (-100 : Int32))])) _
  refine own_back (fun t k => XS.istoreN X0.here hx rfl (hb hby ss1970_d35) rfl (l' := #[.val (.int (-1970 : Int32)), .val (.int (0 : Int32)), .val (.int (-100 : Int32)), .val (.int (1 : Int32))]) rfl k) ?_
  show OwnGo p e below (s₁.setTop (mkF m 36 #[.val (.int (-1970 : Int32)), .val (.int (0 : Int32)), .val (.int (-100 : Int32)), .val (.int (1 : Int32))] [])) _
  refine own_back (fun t k => XS.iinc X0.here hx rfl (hb hby ss1970_d36) rfl (l' := #[.val (.int (-1970 : Int32)), .val (.int (0 : Int32)), .val (.int (-100 : Int32)), .val (.int (2 : Int32))]) rfl k) ?_
  show OwnGo p e below (s₁.setTop (mkF m 39 #[.val (.int (-1970 : Int32)), .val (.int (0 : Int32)), .val (.int (-100 : Int32)), .val (.int (2 : Int32))] [])) _
  refine own_back (fun t k => XS.goto X0.here hx rfl (pc0 := 39) (pc' := 16) rfl (hb hby ss1970_d39) (by decide) (by decide) k) ?_
  show OwnGo p e below (s₁.setTop (mkF m 16 #[.val (.int (-1970 : Int32)), .val (.int (0 : Int32)), .val (.int (-100 : Int32)), .val (.int (2 : Int32))] [])) _
  refine own_back (fun t k => XS.iloadN X0.here hx rfl (hb hby ss1970_d16) rfl k) ?_
  show OwnGo p e below (s₁.setTop (mkF m 17 #[.val (.int (-1970 : Int32)), .val (.int (0 : Int32)), .val (.int (-100 : Int32)), .val (.int (2 : Int32))] [(.int (2 : Int32))])) _
  refine own_back (fun t k => XS.bipush X0.here hx rfl (hb hby ss1970_d17) k) ?_
  show OwnGo p e below (s₁.setTop (mkF m 19 #[.val (.int (-1970 : Int32)), .val (.int (0 : Int32)), .val (.int (-100 : Int32)), .val (.int (2 : Int32))] [(.int (10 : Int32)), (.int (2 : Int32))])) _
  refine own_back (fun t k => XS.icmpNo X0.here hx rfl (hb hby ss1970_d19) rfl (Jvm.Free.XT.ii_ge_f (by decide)) k) ?_
  show OwnGo p e below (s₁.setTop (mkF m 22 #[.val (.int (-1970 : Int32)), .val (.int (0 : Int32)), .val (.int (-100 : Int32)), .val (.int (2 : Int32))] [])) _
  refine own_back (fun t k => XS.iloadN X0.here hx rfl (hb hby ss1970_d22) rfl k) ?_
  show OwnGo p e below (s₁.setTop (mkF m 23 #[.val (.int (-1970 : Int32)), .val (.int (0 : Int32)), .val (.int (-100 : Int32)), .val (.int (2 : Int32))] [(.int (-1970 : Int32))])) _
  refine own_back (fun t k => XS.iloadN X0.here hx rfl (hb hby ss1970_d23) rfl k) ?_
  show OwnGo p e below (s₁.setTop (mkF m 24 #[.val (.int (-1970 : Int32)), .val (.int (0 : Int32)), .val (.int (-100 : Int32)), .val (.int (2 : Int32))] [(.int (-100 : Int32)), (.int (-1970 : Int32))])) _
  refine own_back (fun t k => XS.icmpYes X0.here hx rfl (pc0 := 24) (pc' := 31) rfl (hb hby ss1970_d24) rfl (Jvm.Free.XT.ii_le_t (by decide)) (by decide) (by decide) k) ?_
  show OwnGo p e below (s₁.setTop (mkF m 31 #[.val (.int (-1970 : Int32)), .val (.int (0 : Int32)), .val (.int (-100 : Int32)), .val (.int (2 : Int32))] [])) _
  refine own_back (fun t k => XS.bipush X0.here hx rfl (hb hby ss1970_d31) k) ?_
  show OwnGo p e below (s₁.setTop (mkF m 33 #[.val (.int (-1970 : Int32)), .val (.int (0 : Int32)), .val (.int (-100 : Int32)), .val (.int (2 : Int32))] [(.int (10 : Int32))])) _
  refine own_back (fun t k => XS.iloadN X0.here hx rfl (hb hby ss1970_d33) rfl k) ?_
  show OwnGo p e below (s₁.setTop (mkF m 34 #[.val (.int (-1970 : Int32)), .val (.int (0 : Int32)), .val (.int (-100 : Int32)), .val (.int (2 : Int32))] [(.int (-100 : Int32)), (.int (10 : Int32))])) _
  refine own_back (fun t k => XS.imul X0.here hx rfl (hb hby ss1970_d34) rfl k) ?_
  show OwnGo p e below (s₁.setTop (mkF m 35 #[.val (.int (-1970 : Int32)), .val (.int (0 : Int32)), .val (.int (-100 : Int32)), .val (.int (2 : Int32))] [(.int ((10 : Int32) * (-100 : Int32)))])) _
  rw [show ((10 : Int32) * (-100 : Int32)) = (-1000 : Int32) from by decide]
  show OwnGo p e below (s₁.setTop (mkF m 35 #[.val (.int (-1970 : Int32)), .val (.int (0 : Int32)), .val (.int (-100 : Int32)), .val (.int (2 : Int32))] [(.int (-1000 : Int32))])) _
  refine own_back (fun t k => XS.istoreN X0.here hx rfl (hb hby ss1970_d35) rfl (l' := #[.val (.int (-1970 : Int32)), .val (.int (0 : Int32)), .val (.int (-1000 : Int32)), .val (.int (2 : Int32))]) rfl k) ?_
  show OwnGo p e below (s₁.setTop (mkF m 36 #[.val (.int (-1970 : Int32)), .val (.int (0 : Int32)), .val (.int (-1000 : Int32)), .val (.int (2 : Int32))] [])) _
  refine own_back (fun t k => XS.iinc X0.here hx rfl (hb hby ss1970_d36) rfl (l' := #[.val (.int (-1970 : Int32)), .val (.int (0 : Int32)), .val (.int (-1000 : Int32)), .val (.int (3 : Int32))]) rfl k) ?_
  show OwnGo p e below (s₁.setTop (mkF m 39 #[.val (.int (-1970 : Int32)), .val (.int (0 : Int32)), .val (.int (-1000 : Int32)), .val (.int (3 : Int32))] [])) _
  refine own_back (fun t k => XS.goto X0.here hx rfl (pc0 := 39) (pc' := 16) rfl (hb hby ss1970_d39) (by decide) (by decide) k) ?_
  show OwnGo p e below (s₁.setTop (mkF m 16 #[.val (.int (-1970 : Int32)), .val (.int (0 : Int32)), .val (.int (-1000 : Int32)), .val (.int (3 : Int32))] [])) _
  refine own_back (fun t k => XS.iloadN X0.here hx rfl (hb hby ss1970_d16) rfl k) ?_
  show OwnGo p e below (s₁.setTop (mkF m 17 #[.val (.int (-1970 : Int32)), .val (.int (0 : Int32)), .val (.int (-1000 : Int32)), .val (.int (3 : Int32))] [(.int (3 : Int32))])) _
  refine own_back (fun t k => XS.bipush X0.here hx rfl (hb hby ss1970_d17) k) ?_
  show OwnGo p e below (s₁.setTop (mkF m 19 #[.val (.int (-1970 : Int32)), .val (.int (0 : Int32)), .val (.int (-1000 : Int32)), .val (.int (3 : Int32))] [(.int (10 : Int32)), (.int (3 : Int32))])) _
  refine own_back (fun t k => XS.icmpNo X0.here hx rfl (hb hby ss1970_d19) rfl (Jvm.Free.XT.ii_ge_f (by decide)) k) ?_
  show OwnGo p e below (s₁.setTop (mkF m 22 #[.val (.int (-1970 : Int32)), .val (.int (0 : Int32)), .val (.int (-1000 : Int32)), .val (.int (3 : Int32))] [])) _
  refine own_back (fun t k => XS.iloadN X0.here hx rfl (hb hby ss1970_d22) rfl k) ?_
  show OwnGo p e below (s₁.setTop (mkF m 23 #[.val (.int (-1970 : Int32)), .val (.int (0 : Int32)), .val (.int (-1000 : Int32)), .val (.int (3 : Int32))] [(.int (-1970 : Int32))])) _
  refine own_back (fun t k => XS.iloadN X0.here hx rfl (hb hby ss1970_d23) rfl k) ?_
  show OwnGo p e below (s₁.setTop (mkF m 24 #[.val (.int (-1970 : Int32)), .val (.int (0 : Int32)), .val (.int (-1000 : Int32)), .val (.int (3 : Int32))] [(.int (-1000 : Int32)), (.int (-1970 : Int32))])) _
  refine own_back (fun t k => XS.icmpYes X0.here hx rfl (pc0 := 24) (pc' := 31) rfl (hb hby ss1970_d24) rfl (Jvm.Free.XT.ii_le_t (by decide)) (by decide) (by decide) k) ?_
  show OwnGo p e below (s₁.setTop (mkF m 31 #[.val (.int (-1970 : Int32)), .val (.int (0 : Int32)), .val (.int (-1000 : Int32)), .val (.int (3 : Int32))] [])) _
  refine own_back (fun t k => XS.bipush X0.here hx rfl (hb hby ss1970_d31) k) ?_
  show OwnGo p e below (s₁.setTop (mkF m 33 #[.val (.int (-1970 : Int32)), .val (.int (0 : Int32)), .val (.int (-1000 : Int32)), .val (.int (3 : Int32))] [(.int (10 : Int32))])) _
  refine own_back (fun t k => XS.iloadN X0.here hx rfl (hb hby ss1970_d33) rfl k) ?_
  show OwnGo p e below (s₁.setTop (mkF m 34 #[.val (.int (-1970 : Int32)), .val (.int (0 : Int32)), .val (.int (-1000 : Int32)), .val (.int (3 : Int32))] [(.int (-1000 : Int32)), (.int (10 : Int32))])) _
  refine own_back (fun t k => XS.imul X0.here hx rfl (hb hby ss1970_d34) rfl k) ?_
  show OwnGo p e below (s₁.setTop (mkF m 35 #[.val (.int (-1970 : Int32)), .val (.int (0 : Int32)), .val (.int (-1000 : Int32)), .val (.int (3 : Int32))] [(.int ((10 : Int32) * (-1000 : Int32)))])) _
  rw [show ((10 : Int32) * (-1000 : Int32)) = (-10000 : Int32) from by decide]
  show OwnGo p e below (s₁.setTop (mkF m 35 #[.val (.int (-1970 : Int32)), .val (.int (0 : Int32)), .val (.int (-1000 : Int32)), .val (.int (3 : Int32))] [(.int (-10000 : Int32))])) _
  refine own_back (fun t k => XS.istoreN X0.here hx rfl (hb hby ss1970_d35) rfl (l' := #[.val (.int (-1970 : Int32)), .val (.int (0 : Int32)), .val (.int (-10000 : Int32)), .val (.int (3 : Int32))]) rfl k) ?_
  show OwnGo p e below (s₁.setTop (mkF m 36 #[.val (.int (-1970 : Int32)), .val (.int (0 : Int32)), .val (.int (-10000 : Int32)), .val (.int (3 : Int32))] [])) _
  refine own_back (fun t k => XS.iinc X0.here hx rfl (hb hby ss1970_d36) rfl (l' := #[.val (.int (-1970 : Int32)), .val (.int (0 : Int32)), .val (.int (-10000 : Int32)), .val (.int (4 : Int32))]) rfl k) ?_
  show OwnGo p e below (s₁.setTop (mkF m 39 #[.val (.int (-1970 : Int32)), .val (.int (0 : Int32)), .val (.int (-10000 : Int32)), .val (.int (4 : Int32))] [])) _
  refine own_back (fun t k => XS.goto X0.here hx rfl (pc0 := 39) (pc' := 16) rfl (hb hby ss1970_d39) (by decide) (by decide) k) ?_
  show OwnGo p e below (s₁.setTop (mkF m 16 #[.val (.int (-1970 : Int32)), .val (.int (0 : Int32)), .val (.int (-10000 : Int32)), .val (.int (4 : Int32))] [])) _
  refine own_back (fun t k => XS.iloadN X0.here hx rfl (hb hby ss1970_d16) rfl k) ?_
  show OwnGo p e below (s₁.setTop (mkF m 17 #[.val (.int (-1970 : Int32)), .val (.int (0 : Int32)), .val (.int (-10000 : Int32)), .val (.int (4 : Int32))] [(.int (4 : Int32))])) _
  refine own_back (fun t k => XS.bipush X0.here hx rfl (hb hby ss1970_d17) k) ?_
  show OwnGo p e below (s₁.setTop (mkF m 19 #[.val (.int (-1970 : Int32)), .val (.int (0 : Int32)), .val (.int (-10000 : Int32)), .val (.int (4 : Int32))] [(.int (10 : Int32)), (.int (4 : Int32))])) _
  refine own_back (fun t k => XS.icmpNo X0.here hx rfl (hb hby ss1970_d19) rfl (Jvm.Free.XT.ii_ge_f (by decide)) k) ?_
  show OwnGo p e below (s₁.setTop (mkF m 22 #[.val (.int (-1970 : Int32)), .val (.int (0 : Int32)), .val (.int (-10000 : Int32)), .val (.int (4 : Int32))] [])) _
  refine own_back (fun t k => XS.iloadN X0.here hx rfl (hb hby ss1970_d22) rfl k) ?_
  show OwnGo p e below (s₁.setTop (mkF m 23 #[.val (.int (-1970 : Int32)), .val (.int (0 : Int32)), .val (.int (-10000 : Int32)), .val (.int (4 : Int32))] [(.int (-1970 : Int32))])) _
  refine own_back (fun t k => XS.iloadN X0.here hx rfl (hb hby ss1970_d23) rfl k) ?_
  show OwnGo p e below (s₁.setTop (mkF m 24 #[.val (.int (-1970 : Int32)), .val (.int (0 : Int32)), .val (.int (-10000 : Int32)), .val (.int (4 : Int32))] [(.int (-10000 : Int32)), (.int (-1970 : Int32))])) _
  refine own_back (fun t k => XS.icmpNo X0.here hx rfl (hb hby ss1970_d24) rfl (Jvm.Free.XT.ii_le_f (by decide)) k) ?_
  show OwnGo p e below (s₁.setTop (mkF m 27 #[.val (.int (-1970 : Int32)), .val (.int (0 : Int32)), .val (.int (-10000 : Int32)), .val (.int (4 : Int32))] [])) _
  refine own_back (fun t k => XS.iloadN X0.here hx rfl (hb hby ss1970_d27) rfl k) ?_
  show OwnGo p e below (s₁.setTop (mkF m 28 #[.val (.int (-1970 : Int32)), .val (.int (0 : Int32)), .val (.int (-10000 : Int32)), .val (.int (4 : Int32))] [(.int (4 : Int32))])) _
  refine own_back (fun t k => XS.iloadN X0.here hx rfl (hb hby ss1970_d28) rfl k) ?_
  show OwnGo p e below (s₁.setTop (mkF m 29 #[.val (.int (-1970 : Int32)), .val (.int (0 : Int32)), .val (.int (-10000 : Int32)), .val (.int (4 : Int32))] [(.int (0 : Int32)), (.int (4 : Int32))])) _
  refine own_back (fun t k => XS.iadd X0.here hx rfl (hb hby ss1970_d29) rfl k) ?_
  show OwnGo p e below (s₁.setTop (mkF m 30 #[.val (.int (-1970 : Int32)), .val (.int (0 : Int32)), .val (.int (-10000 : Int32)), .val (.int (4 : Int32))] [(.int ((4 : Int32) + (0 : Int32)))])) _
  rw [show ((4 : Int32) + (0 : Int32)) = (4 : Int32) from by decide]
  show OwnGo p e below (s₁.setTop (mkF m 30 #[.val (.int (-1970 : Int32)), .val (.int (0 : Int32)), .val (.int (-10000 : Int32)), .val (.int (4 : Int32))] [(.int (4 : Int32))])) _
  refine own_retI X0 hx Bd.notSynchronized Bd.returns (hb hby ss1970_d30) e0 (Nat.le_of_ble_eq_true rfl) (Nat.le_of_ble_eq_true rfl) ?_
  exact ⟨rfl, N0, rfl⟩
theorem ss1_d0 : decode jdk_33_method_13_code 0 = .ok (.iconst 1, 1) := by decide +kernel
theorem ss1_d1 : decode jdk_33_method_13_code 1 = .ok (.istore_n 1, 1) := by decide +kernel
theorem ss1_d2 : decode jdk_33_method_13_code 2 = .ok (.iload_n 0, 1) := by decide +kernel
theorem ss1_d3 : decode jdk_33_method_13_code 3 = .ok (.ifCond .lt 8, 3) := by decide +kernel
theorem ss1_d6 : decode jdk_33_method_13_code 6 = .ok (.iconst 0, 1) := by decide +kernel
theorem ss1_d7 : decode jdk_33_method_13_code 7 = .ok (.istore_n 1, 1) := by decide +kernel
theorem ss1_d8 : decode jdk_33_method_13_code 8 = .ok (.iload_n 0, 1) := by decide +kernel
theorem ss1_d9 : decode jdk_33_method_13_code 9 = .ok (.ineg, 1) := by decide +kernel
theorem ss1_d10 : decode jdk_33_method_13_code 10 = .ok (.istore_n 0, 1) := by decide +kernel
theorem ss1_d11 : decode jdk_33_method_13_code 11 = .ok (.bipush (-10), 2) := by decide +kernel
theorem ss1_d13 : decode jdk_33_method_13_code 13 = .ok (.istore_n 2, 1) := by decide +kernel
theorem ss1_d14 : decode jdk_33_method_13_code 14 = .ok (.iconst 1, 1) := by decide +kernel
theorem ss1_d15 : decode jdk_33_method_13_code 15 = .ok (.istore_n 3, 1) := by decide +kernel
theorem ss1_d16 : decode jdk_33_method_13_code 16 = .ok (.iload_n 3, 1) := by decide +kernel
theorem ss1_d17 : decode jdk_33_method_13_code 17 = .ok (.bipush 10, 2) := by decide +kernel
theorem ss1_d19 : decode jdk_33_method_13_code 19 = .ok (.if_icmp .ge 23, 3) := by decide +kernel
theorem ss1_d22 : decode jdk_33_method_13_code 22 = .ok (.iload_n 0, 1) := by decide +kernel
theorem ss1_d23 : decode jdk_33_method_13_code 23 = .ok (.iload_n 2, 1) := by decide +kernel
theorem ss1_d24 : decode jdk_33_method_13_code 24 = .ok (.if_icmp .le 7, 3) := by decide +kernel
theorem ss1_d27 : decode jdk_33_method_13_code 27 = .ok (.iload_n 3, 1) := by decide +kernel
theorem ss1_d28 : decode jdk_33_method_13_code 28 = .ok (.iload_n 1, 1) := by decide +kernel
theorem ss1_d29 : decode jdk_33_method_13_code 29 = .ok (.iadd, 1) := by decide +kernel
theorem ss1_d30 : decode jdk_33_method_13_code 30 = .ok (.ireturn, 1) := by decide +kernel
theorem ss1_pn : plainName "java/lang/Integer" = true := by first | (simp [plainName, overriddenIn]; done) | decide +kernel
theorem ss1_ef (m : MethodId) (x0 : Int32) : entryFrame m #[(.int x0)] 4 = mkF m 0 #[.val (.int x0), .unset, .unset, .unset] [] := by first | (simp [entryFrame, mkF, argsToLocals, Value.category]; done) | rfl
set_option maxRecDepth 65536 in
set_option maxHeartbeats 40000000 in
theorem rm_ss1 (l : Launch) (Z : State) (a0 : Array Value) (hw : ∀ d ∈ tables_1, d.before a0 Z = true) (ws : List Jvm.Cond)  (h0 : Heap) (n0 : Nat) (Z0 : n0 ≤ h0.size)  :
    MetFree l (⟨"java/lang/Integer", "stringSize", "(I)I"⟩ : MethodName) (head1 (Jvm.Cond.code (⟨"java/lang/Integer", "stringSize", "(I)I"⟩ : MethodName) jdk_33_method_13_code 4 (some .int) :: ws) ({ frames := 0, cells := 0, slots := 0, locals := 0 } : Room)) (fun a U => a = #[(.int (1 : Int32))] ∧ Z.Warmed39 U.vm ∧ U.heap = h0) (fun _ _ _ _ _ => True) (fun _ U o U' => OwnEnd U (fun v h L => v = some (.int (1 : Int32)) ∧ Fr n0 L ∧ h = h0) ({ frames := 0, cells := 0, slots := 0, locals := 0 } : Room).cells ({ frames := 0, cells := 0, slots := 0, locals := 0 } : Room).slots o U') := by
  refine MetFree.of_bodySF (plainFor_of_name ss1_pn) hisR ?_
  intro p e s m args below meth c s₁ Bd hml0 hP hK
  obtain ⟨rfl, hZ, hh⟩ := hP
  have hx := Bd.exec
  have hby := Bd.bytes
  have hml : c.maxLocals = 4 := hml0
  have hown : s.vm.findClass "java/lang/Integer" = some m.cls := findClass_of_methodNamed Bd.named
  have hnm := (name_of_methodNamed Bd.named Bd.method).1
  have X0 : Stand p l e ({ frames := 0, cells := 0, slots := 0, locals := 0 } : Room) s m #[(.int (1 : Int32))] below meth c s₁ [] 0 0 := Stand.of_body Bd
  have e0 : s₁.heap = h0 := by rw [← hh, Bd.state]; rfl
  have N0 := Fr.nil n0
  have KP0 := Keep.refl h0 []
  refine own_go (Q := (OwnEnd s (fun v h L => v = some (.int (1 : Int32)) ∧ Fr n0 L ∧ h = h0) ({ frames := 0, cells := 0, slots := 0, locals := 0 } : Room).cells ({ frames := 0, cells := 0, slots := 0, locals := 0 } : Room).slots)) ?_
  refine own_back (fun t k => castTop (ss1_ef m (1 : Int32)) k) ?_
  show OwnGo p e below (s₁.setTop (mkF m 0 #[.val (.int (1 : Int32)), .unset, .unset, .unset] [])) _
  refine own_back (fun t k => XS.iconst X0.here hx rfl (hb hby ss1_d0) k) ?_
  show OwnGo p e below (s₁.setTop (mkF m 1 #[.val (.int (1 : Int32)), .unset, .unset, .unset] [(.int (1 : Int32))])) _
  refine own_back (fun t k => XS.istoreN X0.here hx rfl (hb hby ss1_d1) rfl (l' := #[.val (.int (1 : Int32)), .val (.int (1 : Int32)), .unset, .unset]) rfl k) ?_
  show OwnGo p e below (s₁.setTop (mkF m 2 #[.val (.int (1 : Int32)), .val (.int (1 : Int32)), .unset, .unset] [])) _
  refine own_back (fun t k => XS.iloadN X0.here hx rfl (hb hby ss1_d2) rfl k) ?_
  show OwnGo p e below (s₁.setTop (mkF m 3 #[.val (.int (1 : Int32)), .val (.int (1 : Int32)), .unset, .unset] [(.int (1 : Int32))])) _
  refine own_back (fun t k => XS.ifNo X0.here hx rfl (hb hby ss1_d3) rfl (Jvm.Free.XT.i0_lt_f (by decide)) k) ?_
  show OwnGo p e below (s₁.setTop (mkF m 6 #[.val (.int (1 : Int32)), .val (.int (1 : Int32)), .unset, .unset] [])) _
  refine own_back (fun t k => XS.iconst X0.here hx rfl (hb hby ss1_d6) k) ?_
  show OwnGo p e below (s₁.setTop (mkF m 7 #[.val (.int (1 : Int32)), .val (.int (1 : Int32)), .unset, .unset] [(.int (0 : Int32))])) _
  refine own_back (fun t k => XS.istoreN X0.here hx rfl (hb hby ss1_d7) rfl (l' := #[.val (.int (1 : Int32)), .val (.int (0 : Int32)), .unset, .unset]) rfl k) ?_
  show OwnGo p e below (s₁.setTop (mkF m 8 #[.val (.int (1 : Int32)), .val (.int (0 : Int32)), .unset, .unset] [])) _
  refine own_back (fun t k => XS.iloadN X0.here hx rfl (hb hby ss1_d8) rfl k) ?_
  show OwnGo p e below (s₁.setTop (mkF m 9 #[.val (.int (1 : Int32)), .val (.int (0 : Int32)), .unset, .unset] [(.int (1 : Int32))])) _
  refine own_back (fun t k => XS.ineg X0.here hx rfl (hb hby ss1_d9) rfl k) ?_
  show OwnGo p e below (s₁.setTop (mkF m 10 #[.val (.int (1 : Int32)), .val (.int (0 : Int32)), .unset, .unset] [(.int (-(1 : Int32)))])) _
  rw [show (-(1 : Int32)) = (-1 : Int32) from by decide]
  show OwnGo p e below (s₁.setTop (mkF m 10 #[.val (.int (1 : Int32)), .val (.int (0 : Int32)), .unset, .unset] [(.int (-1 : Int32))])) _
  refine own_back (fun t k => XS.istoreN X0.here hx rfl (hb hby ss1_d10) rfl (l' := #[.val (.int (-1 : Int32)), .val (.int (0 : Int32)), .unset, .unset]) rfl k) ?_
  show OwnGo p e below (s₁.setTop (mkF m 11 #[.val (.int (-1 : Int32)), .val (.int (0 : Int32)), .unset, .unset] [])) _
  refine own_back (fun t k => XS.bipush X0.here hx rfl (hb hby ss1_d11) k) ?_
  show OwnGo p e below (s₁.setTop (mkF m 13 #[.val (.int (-1 : Int32)), .val (.int (0 : Int32)), .unset, .unset] [(.int (-10 : Int32))])) _
  refine own_back (fun t k => XS.istoreN X0.here hx rfl (hb hby ss1_d13) rfl (l' := #[.val (.int (-1 : Int32)), .val (.int (0 : Int32)), .val (.int (-10 : Int32)), .unset]) rfl k) ?_
  show OwnGo p e below (s₁.setTop (mkF m 14 #[.val (.int (-1 : Int32)), .val (.int (0 : Int32)), .val (.int (-10 : Int32)), .unset] [])) _
  refine own_back (fun t k => XS.iconst X0.here hx rfl (hb hby ss1_d14) k) ?_
  show OwnGo p e below (s₁.setTop (mkF m 15 #[.val (.int (-1 : Int32)), .val (.int (0 : Int32)), .val (.int (-10 : Int32)), .unset] [(.int (1 : Int32))])) _
  refine own_back (fun t k => XS.istoreN X0.here hx rfl (hb hby ss1_d15) rfl (l' := #[.val (.int (-1 : Int32)), .val (.int (0 : Int32)), .val (.int (-10 : Int32)), .val (.int (1 : Int32))]) rfl k) ?_
  show OwnGo p e below (s₁.setTop (mkF m 16 #[.val (.int (-1 : Int32)), .val (.int (0 : Int32)), .val (.int (-10 : Int32)), .val (.int (1 : Int32))] [])) _
  refine own_back (fun t k => XS.iloadN X0.here hx rfl (hb hby ss1_d16) rfl k) ?_
  show OwnGo p e below (s₁.setTop (mkF m 17 #[.val (.int (-1 : Int32)), .val (.int (0 : Int32)), .val (.int (-10 : Int32)), .val (.int (1 : Int32))] [(.int (1 : Int32))])) _
  refine own_back (fun t k => XS.bipush X0.here hx rfl (hb hby ss1_d17) k) ?_
  show OwnGo p e below (s₁.setTop (mkF m 19 #[.val (.int (-1 : Int32)), .val (.int (0 : Int32)), .val (.int (-10 : Int32)), .val (.int (1 : Int32))] [(.int (10 : Int32)), (.int (1 : Int32))])) _
  refine own_back (fun t k => XS.icmpNo X0.here hx rfl (hb hby ss1_d19) rfl (Jvm.Free.XT.ii_ge_f (by decide)) k) ?_
  show OwnGo p e below (s₁.setTop (mkF m 22 #[.val (.int (-1 : Int32)), .val (.int (0 : Int32)), .val (.int (-10 : Int32)), .val (.int (1 : Int32))] [])) _
  refine own_back (fun t k => XS.iloadN X0.here hx rfl (hb hby ss1_d22) rfl k) ?_
  show OwnGo p e below (s₁.setTop (mkF m 23 #[.val (.int (-1 : Int32)), .val (.int (0 : Int32)), .val (.int (-10 : Int32)), .val (.int (1 : Int32))] [(.int (-1 : Int32))])) _
  refine own_back (fun t k => XS.iloadN X0.here hx rfl (hb hby ss1_d23) rfl k) ?_
  show OwnGo p e below (s₁.setTop (mkF m 24 #[.val (.int (-1 : Int32)), .val (.int (0 : Int32)), .val (.int (-10 : Int32)), .val (.int (1 : Int32))] [(.int (-10 : Int32)), (.int (-1 : Int32))])) _
  refine own_back (fun t k => XS.icmpNo X0.here hx rfl (hb hby ss1_d24) rfl (Jvm.Free.XT.ii_le_f (by decide)) k) ?_
  show OwnGo p e below (s₁.setTop (mkF m 27 #[.val (.int (-1 : Int32)), .val (.int (0 : Int32)), .val (.int (-10 : Int32)), .val (.int (1 : Int32))] [])) _
  refine own_back (fun t k => XS.iloadN X0.here hx rfl (hb hby ss1_d27) rfl k) ?_
  show OwnGo p e below (s₁.setTop (mkF m 28 #[.val (.int (-1 : Int32)), .val (.int (0 : Int32)), .val (.int (-10 : Int32)), .val (.int (1 : Int32))] [(.int (1 : Int32))])) _
  refine own_back (fun t k => XS.iloadN X0.here hx rfl (hb hby ss1_d28) rfl k) ?_
  show OwnGo p e below (s₁.setTop (mkF m 29 #[.val (.int (-1 : Int32)), .val (.int (0 : Int32)), .val (.int (-10 : Int32)), .val (.int (1 : Int32))] [(.int (0 : Int32)), (.int (1 : Int32))])) _
  refine own_back (fun t k => XS.iadd X0.here hx rfl (hb hby ss1_d29) rfl k) ?_
  show OwnGo p e below (s₁.setTop (mkF m 30 #[.val (.int (-1 : Int32)), .val (.int (0 : Int32)), .val (.int (-10 : Int32)), .val (.int (1 : Int32))] [(.int ((1 : Int32) + (0 : Int32)))])) _
  rw [show ((1 : Int32) + (0 : Int32)) = (1 : Int32) from by decide]
  show OwnGo p e below (s₁.setTop (mkF m 30 #[.val (.int (-1 : Int32)), .val (.int (0 : Int32)), .val (.int (-10 : Int32)), .val (.int (1 : Int32))] [(.int (1 : Int32))])) _
  refine own_retI X0 hx Bd.notSynchronized Bd.returns (hb hby ss1_d30) e0 (Nat.le_of_ble_eq_true rfl) (Nat.le_of_ble_eq_true rfl) ?_
  exact ⟨rfl, N0, rfl⟩
theorem bl1_d0 : decode jdk_68_method_68_code 0 = .ok (.getstatic 18, 3) := by decide +kernel
theorem bl1_d3 : decode jdk_68_method_68_code 3 = .ok (.ifCond .eq 14, 3) := by decide +kernel
theorem bl1_d6 : decode jdk_68_method_68_code 6 = .ok (.aload_n 0, 1) := by decide +kernel
theorem bl1_d7 : decode jdk_68_method_68_code 7 = .ok (.getfield 22, 3) := by decide +kernel
theorem bl1_d10 : decode jdk_68_method_68_code 10 = .ok (.ifCond .ne 7, 3) := by decide +kernel
theorem bl1_d13 : decode jdk_68_method_68_code 13 = .ok (.iconst 1, 1) := by decide +kernel
theorem bl1_d14 : decode jdk_68_method_68_code 14 = .ok (.goto 4, 3) := by decide +kernel
theorem bl1_d18 : decode jdk_68_method_68_code 18 = .ok (.ireturn, 1) := by decide +kernel
theorem bl1_pn : plainName "java/lang/AbstractStringBuilder" = true := by first | (simp [plainName, overriddenIn]; done) | decide +kernel
theorem bl1_ef (m : MethodId) (x0 : Addr) : entryFrame m #[(.ref x0)] 1 = mkF m 0 #[.val (.ref x0)] [] := by first | (simp [entryFrame, mkF, argsToLocals, Value.category]; done) | rfl
set_option maxRecDepth 65536 in
set_option maxHeartbeats 40000000 in
theorem rm_bl1 (l : Launch) (Z : State) (a0 : Array Value) (hw : ∀ d ∈ tables_1, d.before a0 Z = true) (ws : List Jvm.Cond) (a1 : Addr) (cz : Int32) (h0 : Heap) (n0 : Nat) (Z0 : n0 ≤ h0.size) (OL : Old Z n0 h0) (C1 : Fld Z h0 a1 "java/lang/AbstractStringBuilder" "coder" "B" (.int 0)) (SC : Sta Z Z.heap "java/lang/String" "COMPACT_STRINGS" "Z" (.int cz)) (hcz : ¬ cz = 0) :
    MetFree l (⟨"java/lang/AbstractStringBuilder", "isLatin1", "()Z"⟩ : MethodName) (head1 (Jvm.Cond.code (⟨"java/lang/AbstractStringBuilder", "isLatin1", "()Z"⟩ : MethodName) jdk_68_method_68_code 1 (some .boolean) :: ws) ({ frames := 0, cells := 0, slots := 0, locals := 0 } : Room)) (fun a U => a = #[(.ref a1)] ∧ Z.Warmed39 U.vm ∧ U.heap = h0) (fun _ _ _ _ _ => True) (fun _ U o U' => OwnEnd U (fun v h L => v = some (.int 1) ∧ Fr n0 L ∧ h = h0) ({ frames := 0, cells := 0, slots := 0, locals := 0 } : Room).cells ({ frames := 0, cells := 0, slots := 0, locals := 0 } : Room).slots o U') := by
  refine MetFree.of_bodySF (plainFor_of_name bl1_pn) hisR ?_
  intro p e s m args below meth c s₁ Bd hml0 hP hK
  obtain ⟨rfl, hZ, hh⟩ := hP
  have hx := Bd.exec
  have hby := Bd.bytes
  have hml : c.maxLocals = 1 := hml0
  have hown : s.vm.findClass "java/lang/AbstractStringBuilder" = some m.cls := findClass_of_methodNamed Bd.named
  have hnm := (name_of_methodNamed Bd.named Bd.method).1
  have X0 : Stand p l e ({ frames := 0, cells := 0, slots := 0, locals := 0 } : Room) s m #[(.ref a1)] below meth c s₁ [] 0 0 := Stand.of_body Bd
  have e0 : s₁.heap = h0 := by rw [← hh, Bd.state]; rfl
  have N0 := Fr.nil n0
  have KP0 := Keep.refl h0 []
  refine own_go (Q := (OwnEnd s (fun v h L => v = some (.int 1) ∧ Fr n0 L ∧ h = h0) ({ frames := 0, cells := 0, slots := 0, locals := 0 } : Room).cells ({ frames := 0, cells := 0, slots := 0, locals := 0 } : Room).slots)) ?_
  refine own_back (fun t k => castTop (bl1_ef m a1) k) ?_
  show OwnGo p e below (s₁.setTop (mkF m 0 #[.val (.ref a1)] [])) _
  obtain ⟨T310, X310, e310, st310⟩ := getS2 X0 hx hZ hown (host := "") (Or.inl (hw _ (List.mem_of_getElem? (i := 74) rfl))) Via.refl e0 (SC.ext OL.2) (g := (mkF m 0 #[.val (.ref a1)] [])) rfl (hb hby bl1_d0)
  refine own_back st310 ?_
  show OwnGo p e below (T310.setTop (mkF m 3 #[.val (.ref a1)] [(.int cz)])) _
  refine own_back (fun t k => XS.ifNo X310.here hx rfl (hb hby bl1_d3) rfl (Jvm.Free.XT.i0_eq_f hcz) k) ?_
  show OwnGo p e below (T310.setTop (mkF m 6 #[.val (.ref a1)] [])) _
  refine own_back (fun t k => XS.aloadN X310.here hx rfl (hb hby bl1_d6) rfl rfl k) ?_
  show OwnGo p e below (T310.setTop (mkF m 7 #[.val (.ref a1)] [(.ref a1)])) _
  obtain ⟨T311, X311, e311, st311⟩ := getF X310 hx hZ hown (host := "") (Or.inl (hw _ (List.mem_of_getElem? (i := 77) rfl))) Via.refl e310 C1 (g := (mkF m 7 #[.val (.ref a1)] [(.ref a1)])) rfl rfl (hb hby bl1_d7)
  refine own_back st311 ?_
  show OwnGo p e below (T311.setTop (mkF m 10 #[.val (.ref a1)] [(.int (0 : Int32))])) _
  refine own_back (fun t k => XS.ifNo X311.here hx rfl (hb hby bl1_d10) rfl (Jvm.Free.XT.i0_ne_f (by decide)) k) ?_
  show OwnGo p e below (T311.setTop (mkF m 13 #[.val (.ref a1)] [])) _
  refine own_back (fun t k => XS.iconst X311.here hx rfl (hb hby bl1_d13) k) ?_
  show OwnGo p e below (T311.setTop (mkF m 14 #[.val (.ref a1)] [(.int (1 : Int32))])) _
  refine own_back (fun t k => XS.goto X311.here hx rfl (pc0 := 14) (pc' := 18) rfl (hb hby bl1_d14) (by decide) (by decide) k) ?_
  show OwnGo p e below (T311.setTop (mkF m 18 #[.val (.ref a1)] [(.int (1 : Int32))])) _
  refine own_retN X311 hx Bd.notSynchronized (t := .boolean) (z := (1 : Int32)) Bd.returns (by simp) rfl (hb hby bl1_d18) e311 (Nat.le_of_ble_eq_true rfl) (Nat.le_of_ble_eq_true rfl) ?_
  exact ⟨rfl, N0, rfl⟩
theorem gc1970_0_d0 : decode jdk_33_method_12_code 0 = .ok (.iload_n 1, 1) := by decide +kernel
theorem gc1970_0_d1 : decode jdk_33_method_12_code 1 = .ok (.istore 5, 2) := by decide +kernel
theorem gc1970_0_d3 : decode jdk_33_method_12_code 3 = .ok (.iload_n 0, 1) := by decide +kernel
theorem gc1970_0_d4 : decode jdk_33_method_12_code 4 = .ok (.ifCond .ge 7, 3) := by decide +kernel
theorem gc1970_0_d11 : decode jdk_33_method_12_code 11 = .ok (.iconst 0, 1) := by decide +kernel
theorem gc1970_0_d12 : decode jdk_33_method_12_code 12 = .ok (.istore 6, 2) := by decide +kernel
theorem gc1970_0_d14 : decode jdk_33_method_12_code 14 = .ok (.iload 6, 2) := by decide +kernel
theorem gc1970_0_d16 : decode jdk_33_method_12_code 16 = .ok (.ifCond .ne 6, 3) := by decide +kernel
theorem gc1970_0_d19 : decode jdk_33_method_12_code 19 = .ok (.iload_n 0, 1) := by decide +kernel
theorem gc1970_0_d20 : decode jdk_33_method_12_code 20 = .ok (.ineg, 1) := by decide +kernel
theorem gc1970_0_d21 : decode jdk_33_method_12_code 21 = .ok (.istore_n 0, 1) := by decide +kernel
theorem gc1970_0_d22 : decode jdk_33_method_12_code 22 = .ok (.iload_n 0, 1) := by decide +kernel
theorem gc1970_0_d23 : decode jdk_33_method_12_code 23 = .ok (.bipush (-100), 2) := by decide +kernel
theorem gc1970_0_d25 : decode jdk_33_method_12_code 25 = .ok (.if_icmp .gt 47, 3) := by decide +kernel
theorem gc1970_0_d28 : decode jdk_33_method_12_code 28 = .ok (.iload_n 0, 1) := by decide +kernel
theorem gc1970_0_d29 : decode jdk_33_method_12_code 29 = .ok (.bipush 100, 2) := by decide +kernel
theorem gc1970_0_d31 : decode jdk_33_method_12_code 31 = .ok (.idiv, 1) := by decide +kernel
theorem gc1970_0_d32 : decode jdk_33_method_12_code 32 = .ok (.istore_n 3, 1) := by decide +kernel
theorem gc1970_0_d33 : decode jdk_33_method_12_code 33 = .ok (.iload_n 3, 1) := by decide +kernel
theorem gc1970_0_d34 : decode jdk_33_method_12_code 34 = .ok (.bipush 100, 2) := by decide +kernel
theorem gc1970_0_d36 : decode jdk_33_method_12_code 36 = .ok (.imul, 1) := by decide +kernel
theorem gc1970_0_d37 : decode jdk_33_method_12_code 37 = .ok (.iload_n 0, 1) := by decide +kernel
theorem gc1970_0_d38 : decode jdk_33_method_12_code 38 = .ok (.isub, 1) := by decide +kernel
theorem gc1970_0_d39 : decode jdk_33_method_12_code 39 = .ok (.istore 4, 2) := by decide +kernel
theorem gc1970_0_d41 : decode jdk_33_method_12_code 41 = .ok (.iload_n 3, 1) := by decide +kernel
theorem gc1970_0_d42 : decode jdk_33_method_12_code 42 = .ok (.istore_n 0, 1) := by decide +kernel
theorem gc1970_0_d43 : decode jdk_33_method_12_code 43 = .ok (.aload_n 2, 1) := by decide +kernel
theorem gc1970_0_d44 : decode jdk_33_method_12_code 44 = .ok (.iinc 5 (-1), 3) := by decide +kernel
theorem gc1970_0_d47 : decode jdk_33_method_12_code 47 = .ok (.iload 5, 2) := by decide +kernel
theorem gc1970_0_d49 : decode jdk_33_method_12_code 49 = .ok (.getstatic 83, 3) := by decide +kernel
theorem gc1970_0_d52 : decode jdk_33_method_12_code 52 = .ok (.iload 4, 2) := by decide +kernel
theorem gc1970_0_d54 : decode jdk_33_method_12_code 54 = .ok (.baload, 1) := by decide +kernel
theorem gc1970_0_d55 : decode jdk_33_method_12_code 55 = .ok (.bastore, 1) := by decide +kernel
theorem gc1970_0_d56 : decode jdk_33_method_12_code 56 = .ok (.aload_n 2, 1) := by decide +kernel
theorem gc1970_0_d57 : decode jdk_33_method_12_code 57 = .ok (.iinc 5 (-1), 3) := by decide +kernel
theorem gc1970_0_d60 : decode jdk_33_method_12_code 60 = .ok (.iload 5, 2) := by decide +kernel
theorem gc1970_0_d62 : decode jdk_33_method_12_code 62 = .ok (.getstatic 87, 3) := by decide +kernel
theorem gc1970_0_d65 : decode jdk_33_method_12_code 65 = .ok (.iload 4, 2) := by decide +kernel
theorem gc1970_0_d67 : decode jdk_33_method_12_code 67 = .ok (.baload, 1) := by decide +kernel
theorem gc1970_0_d68 : decode jdk_33_method_12_code 68 = .ok (.bastore, 1) := by decide +kernel
theorem gc1970_0_d69 : decode jdk_33_method_12_code 69 = .ok (.goto (-47), 3) := by decide +kernel
theorem gc1970_0_d72 : decode jdk_33_method_12_code 72 = .ok (.aload_n 2, 1) := by decide +kernel
theorem gc1970_0_d73 : decode jdk_33_method_12_code 73 = .ok (.iinc 5 (-1), 3) := by decide +kernel
theorem gc1970_0_d76 : decode jdk_33_method_12_code 76 = .ok (.iload 5, 2) := by decide +kernel
theorem gc1970_0_d78 : decode jdk_33_method_12_code 78 = .ok (.getstatic 83, 3) := by decide +kernel
theorem gc1970_0_d81 : decode jdk_33_method_12_code 81 = .ok (.iload_n 0, 1) := by decide +kernel
theorem gc1970_0_d82 : decode jdk_33_method_12_code 82 = .ok (.ineg, 1) := by decide +kernel
theorem gc1970_0_d83 : decode jdk_33_method_12_code 83 = .ok (.baload, 1) := by decide +kernel
theorem gc1970_0_d84 : decode jdk_33_method_12_code 84 = .ok (.bastore, 1) := by decide +kernel
theorem gc1970_0_d85 : decode jdk_33_method_12_code 85 = .ok (.iload_n 0, 1) := by decide +kernel
theorem gc1970_0_d86 : decode jdk_33_method_12_code 86 = .ok (.bipush (-9), 2) := by decide +kernel
theorem gc1970_0_d88 : decode jdk_33_method_12_code 88 = .ok (.if_icmp .ge 16, 3) := by decide +kernel
theorem gc1970_0_d91 : decode jdk_33_method_12_code 91 = .ok (.aload_n 2, 1) := by decide +kernel
theorem gc1970_0_d92 : decode jdk_33_method_12_code 92 = .ok (.iinc 5 (-1), 3) := by decide +kernel
theorem gc1970_0_d95 : decode jdk_33_method_12_code 95 = .ok (.iload 5, 2) := by decide +kernel
theorem gc1970_0_d97 : decode jdk_33_method_12_code 97 = .ok (.getstatic 87, 3) := by decide +kernel
theorem gc1970_0_d100 : decode jdk_33_method_12_code 100 = .ok (.iload_n 0, 1) := by decide +kernel
theorem gc1970_0_d101 : decode jdk_33_method_12_code 101 = .ok (.ineg, 1) := by decide +kernel
theorem gc1970_0_d102 : decode jdk_33_method_12_code 102 = .ok (.baload, 1) := by decide +kernel
theorem gc1970_0_d103 : decode jdk_33_method_12_code 103 = .ok (.bastore, 1) := by decide +kernel
theorem gc1970_0_d104 : decode jdk_33_method_12_code 104 = .ok (.iload 6, 2) := by decide +kernel
theorem gc1970_0_d106 : decode jdk_33_method_12_code 106 = .ok (.ifCond .eq 12, 3) := by decide +kernel
theorem gc1970_0_d118 : decode jdk_33_method_12_code 118 = .ok (.iload 5, 2) := by decide +kernel
theorem gc1970_0_d120 : decode jdk_33_method_12_code 120 = .ok (.ireturn, 1) := by decide +kernel
theorem gc1970_0_pn : plainName "java/lang/Integer" = true := by first | (simp [plainName, overriddenIn]; done) | decide +kernel
theorem gc1970_0_ef (m : MethodId) (x0 : Int32) (x1 : Int32) (x2 : Addr) : entryFrame m #[(.int x0), (.int x1), (.ref x2)] 7 = mkF m 0 #[.val (.int x0), .val (.int x1), .val (.ref x2), .unset, .unset, .unset, .unset] [] := by first | (simp [entryFrame, mkF, argsToLocals, Value.category]; done) | rfl
set_option maxRecDepth 65536 in
set_option maxHeartbeats 40000000 in
theorem rm_gc1970_0 (l : Launch) (Z : State) (a0 : Array Value) (hw : ∀ d ∈ tables_1, d.before a0 Z = true) (ws : List Jvm.Cond) (t1 : Addr) (k1 : ClassId) (x0 : Int32) (x1 : Int32) (x2 : Int32) (x3 : Int32) (x4 : Int32) (x5 : Int32) (x6 : Int32) (x7 : Int32) (x8 : Int32) (x9 : Int32) (wO : Addr) (wT : Addr) (kO : ClassId) (kT : ClassId) (h0 : Heap) (n0 : Nat) (Z0 : n0 ≤ h0.size) (OL : Old Z n0 h0) (V1 : Arv Z h0 t1 k1 .byte (10 : Int32) [.int x0, .int x1, .int x2, .int x3, .int x4, .int x5, .int x6, .int x7, .int x8, .int x9] (.int 0)) (g1 : n0 ≤ t1) (SO1 : Sta Z Z.heap "java/lang/Integer" "DigitOnes" "[B" (.ref wO)) (SO2 : Sta Z Z.heap "java/lang/Integer" "DigitTens" "[B" (.ref wT)) (AO1 : Arv Z Z.heap wO kO .byte (100 : Int32) own_ones (.int 0)) (AO2 : Arv Z Z.heap wT kT .byte (100 : Int32) own_tens (.int 0)) :
    MetFree l (⟨"java/lang/Integer", "getChars", "(II[B)I"⟩ : MethodName) (head1 (Jvm.Cond.code (⟨"java/lang/Integer", "getChars", "(II[B)I"⟩ : MethodName) jdk_33_method_12_code 7 (some .int) :: ws) ({ frames := 0, cells := 0, slots := 0, locals := 0 } : Room)) (fun a U => a = #[(.int (1970 : Int32)), (.int (4 : Int32)), (.ref t1)] ∧ Z.Warmed39 U.vm ∧ U.heap = h0) (fun _ _ _ _ _ => True) (fun _ U o U' => OwnEnd U (fun v h L => v = some (.int (0 : Int32)) ∧ Fr n0 L ∧ Keep h0 h [t1] ∧ Arv Z h t1 k1 .byte (10 : Int32) [.int 49, .int 57, .int 55, .int 48, .int x4, .int x5, .int x6, .int x7, .int x8, .int x9] (.int 0)) ({ frames := 0, cells := 0, slots := 0, locals := 0 } : Room).cells ({ frames := 0, cells := 0, slots := 0, locals := 0 } : Room).slots o U') := by
  refine MetFree.of_bodySF (plainFor_of_name gc1970_0_pn) hisR ?_
  intro p e s m args below meth c s₁ Bd hml0 hP hK
  obtain ⟨rfl, hZ, hh⟩ := hP
  have hx := Bd.exec
  have hby := Bd.bytes
  have hml : c.maxLocals = 7 := hml0
  have hown : s.vm.findClass "java/lang/Integer" = some m.cls := findClass_of_methodNamed Bd.named
  have hnm := (name_of_methodNamed Bd.named Bd.method).1
  have X0 : Stand p l e ({ frames := 0, cells := 0, slots := 0, locals := 0 } : Room) s m #[(.int (1970 : Int32)), (.int (4 : Int32)), (.ref t1)] below meth c s₁ [] 0 0 := Stand.of_body Bd
  have e0 : s₁.heap = h0 := by rw [← hh, Bd.state]; rfl
  have N0 := Fr.nil n0
  have KP0 := Keep.refl h0 [t1]
  refine own_go (Q := (OwnEnd s (fun v h L => v = some (.int (0 : Int32)) ∧ Fr n0 L ∧ Keep h0 h [t1] ∧ Arv Z h t1 k1 .byte (10 : Int32) [.int 49, .int 57, .int 55, .int 48, .int x4, .int x5, .int x6, .int x7, .int x8, .int x9] (.int 0)) ({ frames := 0, cells := 0, slots := 0, locals := 0 } : Room).cells ({ frames := 0, cells := 0, slots := 0, locals := 0 } : Room).slots)) ?_
  refine own_back (fun t k => castTop (gc1970_0_ef m (1970 : Int32) (4 : Int32) t1) k) ?_
  show OwnGo p e below (s₁.setTop (mkF m 0 #[.val (.int (1970 : Int32)), .val (.int (4 : Int32)), .val (.ref t1), .unset, .unset, .unset, .unset] [])) _
  refine own_back (fun t k => XS.iloadN X0.here hx rfl (hb hby gc1970_0_d0) rfl k) ?_
  show OwnGo p e below (s₁.setTop (mkF m 1 #[.val (.int (1970 : Int32)), .val (.int (4 : Int32)), .val (.ref t1), .unset, .unset, .unset, .unset] [(.int (4 : Int32))])) _
  refine own_back (fun t k => XS.istore X0.here hx rfl (hb hby gc1970_0_d1) rfl (l' := #[.val (.int (1970 : Int32)), .val (.int (4 : Int32)), .val (.ref t1), .unset, .unset, .val (.int (4 : Int32)), .unset]) rfl k) ?_
  show OwnGo p e below (s₁.setTop (mkF m 3 #[.val (.int (1970 : Int32)), .val (.int (4 : Int32)), .val (.ref t1), .unset, .unset, .val (.int (4 : Int32)), .unset] [])) _
  refine own_back (fun t k => XS.iloadN X0.here hx rfl (hb hby gc1970_0_d3) rfl k) ?_
  show OwnGo p e below (s₁.setTop (mkF m 4 #[.val (.int (1970 : Int32)), .val (.int (4 : Int32)), .val (.ref t1), .unset, .unset, .val (.int (4 : Int32)), .unset] [(.int (1970 : Int32))])) _
  refine own_back (fun t k => XS.ifYes X0.here hx rfl (pc0 := 4) (pc' := 11) rfl (hb hby gc1970_0_d4) rfl (Jvm.Free.XT.i0_ge_t (by decide)) (by decide) (by decide) k) ?_
  show OwnGo p e below (s₁.setTop (mkF m 11 #[.val (.int (1970 : Int32)), .val (.int (4 : Int32)), .val (.ref t1), .unset, .unset, .val (.int (4 : Int32)), .unset] [])) _
  refine own_back (fun t k => XS.iconst X0.here hx rfl (hb hby gc1970_0_d11) k) ?_
  show OwnGo p e below (s₁.setTop (mkF m 12 #[.val (.int (1970 : Int32)), .val (.int (4 : Int32)), .val (.ref t1), .unset, .unset, .val (.int (4 : Int32)), .unset] [(.int (0 : Int32))])) _
  refine own_back (fun t k => XS.istore X0.here hx rfl (hb hby gc1970_0_d12) rfl (l' := #[.val (.int (1970 : Int32)), .val (.int (4 : Int32)), .val (.ref t1), .unset, .unset, .val (.int (4 : Int32)), .val (.int (0 : Int32))]) rfl k) ?_
  show OwnGo p e below (s₁.setTop (mkF m 14 #[.val (.int (1970 : Int32)), .val (.int (4 : Int32)), .val (.ref t1), .unset, .unset, .val (.int (4 : Int32)), .val (.int (0 : Int32))] [])) _
  refine own_back (fun t k => XS.iload X0.here hx rfl (hb hby gc1970_0_d14) rfl k) ?_
  show OwnGo p e below (s₁.setTop (mkF m 16 #[.val (.int (1970 : Int32)), .val (.int (4 : Int32)), .val (.ref t1), .unset, .unset, .val (.int (4 : Int32)), .val (.int (0 : Int32))] [(.int (0 : Int32))])) _
  refine own_back (fun t k => XS.ifNo X0.here hx rfl (hb hby gc1970_0_d16) rfl (Jvm.Free.XT.i0_ne_f (by decide)) k) ?_
  show OwnGo p e below (s₁.setTop (mkF m 19 #[.val (.int (1970 : Int32)), .val (.int (4 : Int32)), .val (.ref t1), .unset, .unset, .val (.int (4 : Int32)), .val (.int (0 : Int32))] [])) _
  refine own_back (fun t k => XS.iloadN X0.here hx rfl (hb hby gc1970_0_d19) rfl k) ?_
  show OwnGo p e below (s₁.setTop (mkF m 20 #[.val (.int (1970 : Int32)), .val (.int (4 : Int32)), .val (.ref t1), .unset, .unset, .val (.int (4 : Int32)), .val (.int (0 : Int32))] [(.int (1970 : Int32))])) _
  refine own_back (fun t k => XS.ineg X0.here hx rfl (hb hby gc1970_0_d20) rfl k) ?_
  show OwnGo p e below (s₁.setTop (mkF m 21 #[.val (.int (1970 : Int32)), .val (.int (4 : Int32)), .val (.ref t1), .unset, .unset, .val (.int (4 : Int32)), .val (.int (0 : Int32))] [(.int (-(1970 : Int32)))])) _
  rw [show (-(1970 : Int32)) = (-1970 : Int32) from by decide]
  show OwnGo p e below (s₁.setTop (mkF m 21 #[.val (.int (1970 : Int32)), .val (.int (4 : Int32)), .val (.ref t1), .unset, .unset, .val (.int (4 : Int32)), .val (.int (0 : Int32))] [(.int (-1970 : Int32))])) _
  refine own_back (fun t k => XS.istoreN X0.here hx rfl (hb hby gc1970_0_d21) rfl (l' := #[.val (.int (-1970 : Int32)), .val (.int (4 : Int32)), .val (.ref t1), .unset, .unset, .val (.int (4 : Int32)), .val (.int (0 : Int32))]) rfl k) ?_
  show OwnGo p e below (s₁.setTop (mkF m 22 #[.val (.int (-1970 : Int32)), .val (.int (4 : Int32)), .val (.ref t1), .unset, .unset, .val (.int (4 : Int32)), .val (.int (0 : Int32))] [])) _
  refine own_back (fun t k => XS.iloadN X0.here hx rfl (hb hby gc1970_0_d22) rfl k) ?_
  show OwnGo p e below (s₁.setTop (mkF m 23 #[.val (.int (-1970 : Int32)), .val (.int (4 : Int32)), .val (.ref t1), .unset, .unset, .val (.int (4 : Int32)), .val (.int (0 : Int32))] [(.int (-1970 : Int32))])) _
  refine own_back (fun t k => XS.bipush X0.here hx rfl (hb hby gc1970_0_d23) k) ?_
  show OwnGo p e below (s₁.setTop (mkF m 25 #[.val (.int (-1970 : Int32)), .val (.int (4 : Int32)), .val (.ref t1), .unset, .unset, .val (.int (4 : Int32)), .val (.int (0 : Int32))] [(.int (-100 : Int32)), (.int (-1970 : Int32))])) _
  refine own_back (fun t k => XS.icmpNo X0.here hx rfl (hb hby gc1970_0_d25) rfl (Jvm.Free.XT.ii_gt_f (by decide)) k) ?_
  show OwnGo p e below (s₁.setTop (mkF m 28 #[.val (.int (-1970 : Int32)), .val (.int (4 : Int32)), .val (.ref t1), .unset, .unset, .val (.int (4 : Int32)), .val (.int (0 : Int32))] [])) _
  refine own_back (fun t k => XS.iloadN X0.here hx rfl (hb hby gc1970_0_d28) rfl k) ?_
  show OwnGo p e below (s₁.setTop (mkF m 29 #[.val (.int (-1970 : Int32)), .val (.int (4 : Int32)), .val (.ref t1), .unset, .unset, .val (.int (4 : Int32)), .val (.int (0 : Int32))] [(.int (-1970 : Int32))])) _
  refine own_back (fun t k => XS.bipush X0.here hx rfl (hb hby gc1970_0_d29) k) ?_
  show OwnGo p e below (s₁.setTop (mkF m 31 #[.val (.int (-1970 : Int32)), .val (.int (4 : Int32)), .val (.ref t1), .unset, .unset, .val (.int (4 : Int32)), .val (.int (0 : Int32))] [(.int (100 : Int32)), (.int (-1970 : Int32))])) _
  refine own_back (fun t k => XS.idiv X0.here hx rfl (hb hby gc1970_0_d31) rfl (by decide) k) ?_
  show OwnGo p e below (s₁.setTop (mkF m 32 #[.val (.int (-1970 : Int32)), .val (.int (4 : Int32)), .val (.ref t1), .unset, .unset, .val (.int (4 : Int32)), .val (.int (0 : Int32))] [(.int ((-1970 : Int32) / (100 : Int32)))])) _
  rw [show ((-1970 : Int32) / (100 : Int32)) = (-19 : Int32) from by decide]
  show OwnGo p e below (s₁.setTop (mkF m 32 #[.val (.int (-1970 : Int32)), .val (.int (4 : Int32)), .val (.ref t1), .unset, .unset, .val (.int (4 : Int32)), .val (.int (0 : Int32))] [(.int (-19 : Int32))])) _
  refine own_back (fun t k => XS.istoreN X0.here hx rfl (hb hby gc1970_0_d32) rfl (l' := #[.val (.int (-1970 : Int32)), .val (.int (4 : Int32)), .val (.ref t1), .val (.int (-19 : Int32)), .unset, .val (.int (4 : Int32)), .val (.int (0 : Int32))]) rfl k) ?_
  show OwnGo p e below (s₁.setTop (mkF m 33 #[.val (.int (-1970 : Int32)), .val (.int (4 : Int32)), .val (.ref t1), .val (.int (-19 : Int32)), .unset, .val (.int (4 : Int32)), .val (.int (0 : Int32))] [])) _
  refine own_back (fun t k => XS.iloadN X0.here hx rfl (hb hby gc1970_0_d33) rfl k) ?_
  show OwnGo p e below (s₁.setTop (mkF m 34 #[.val (.int (-1970 : Int32)), .val (.int (4 : Int32)), .val (.ref t1), .val (.int (-19 : Int32)), .unset, .val (.int (4 : Int32)), .val (.int (0 : Int32))] [(.int (-19 : Int32))])) _
  refine own_back (fun t k => XS.bipush X0.here hx rfl (hb hby gc1970_0_d34) k) ?_
  show OwnGo p e below (s₁.setTop (mkF m 36 #[.val (.int (-1970 : Int32)), .val (.int (4 : Int32)), .val (.ref t1), .val (.int (-19 : Int32)), .unset, .val (.int (4 : Int32)), .val (.int (0 : Int32))] [(.int (100 : Int32)), (.int (-19 : Int32))])) _
  refine own_back (fun t k => XS.imul X0.here hx rfl (hb hby gc1970_0_d36) rfl k) ?_
  show OwnGo p e below (s₁.setTop (mkF m 37 #[.val (.int (-1970 : Int32)), .val (.int (4 : Int32)), .val (.ref t1), .val (.int (-19 : Int32)), .unset, .val (.int (4 : Int32)), .val (.int (0 : Int32))] [(.int ((-19 : Int32) * (100 : Int32)))])) _
  rw [show ((-19 : Int32) * (100 : Int32)) = (-1900 : Int32) from by decide]
  show OwnGo p e below (s₁.setTop (mkF m 37 #[.val (.int (-1970 : Int32)), .val (.int (4 : Int32)), .val (.ref t1), .val (.int (-19 : Int32)), .unset, .val (.int (4 : Int32)), .val (.int (0 : Int32))] [(.int (-1900 : Int32))])) _
  refine own_back (fun t k => XS.iloadN X0.here hx rfl (hb hby gc1970_0_d37) rfl k) ?_
  show OwnGo p e below (s₁.setTop (mkF m 38 #[.val (.int (-1970 : Int32)), .val (.int (4 : Int32)), .val (.ref t1), .val (.int (-19 : Int32)), .unset, .val (.int (4 : Int32)), .val (.int (0 : Int32))] [(.int (-1970 : Int32)), (.int (-1900 : Int32))])) _
  refine own_back (fun t k => XS.isub X0.here hx rfl (hb hby gc1970_0_d38) rfl k) ?_
  show OwnGo p e below (s₁.setTop (mkF m 39 #[.val (.int (-1970 : Int32)), .val (.int (4 : Int32)), .val (.ref t1), .val (.int (-19 : Int32)), .unset, .val (.int (4 : Int32)), .val (.int (0 : Int32))] [(.int ((-1900 : Int32) - (-1970 : Int32)))])) _
  rw [show ((-1900 : Int32) - (-1970 : Int32)) = (70 : Int32) from by decide]
  show OwnGo p e below (s₁.setTop (mkF m 39 #[.val (.int (-1970 : Int32)), .val (.int (4 : Int32)), .val (.ref t1), .val (.int (-19 : Int32)), .unset, .val (.int (4 : Int32)), .val (.int (0 : Int32))] [(.int (70 : Int32))])) _
  refine own_back (fun t k => XS.istore X0.here hx rfl (hb hby gc1970_0_d39) rfl (l' := #[.val (.int (-1970 : Int32)), .val (.int (4 : Int32)), .val (.ref t1), .val (.int (-19 : Int32)), .val (.int (70 : Int32)), .val (.int (4 : Int32)), .val (.int (0 : Int32))]) rfl k) ?_
  show OwnGo p e below (s₁.setTop (mkF m 41 #[.val (.int (-1970 : Int32)), .val (.int (4 : Int32)), .val (.ref t1), .val (.int (-19 : Int32)), .val (.int (70 : Int32)), .val (.int (4 : Int32)), .val (.int (0 : Int32))] [])) _
  refine own_back (fun t k => XS.iloadN X0.here hx rfl (hb hby gc1970_0_d41) rfl k) ?_
  show OwnGo p e below (s₁.setTop (mkF m 42 #[.val (.int (-1970 : Int32)), .val (.int (4 : Int32)), .val (.ref t1), .val (.int (-19 : Int32)), .val (.int (70 : Int32)), .val (.int (4 : Int32)), .val (.int (0 : Int32))] [(.int (-19 : Int32))])) _
  refine own_back (fun t k => XS.istoreN X0.here hx rfl (hb hby gc1970_0_d42) rfl (l' := #[.val (.int (-19 : Int32)), .val (.int (4 : Int32)), .val (.ref t1), .val (.int (-19 : Int32)), .val (.int (70 : Int32)), .val (.int (4 : Int32)), .val (.int (0 : Int32))]) rfl k) ?_
  show OwnGo p e below (s₁.setTop (mkF m 43 #[.val (.int (-19 : Int32)), .val (.int (4 : Int32)), .val (.ref t1), .val (.int (-19 : Int32)), .val (.int (70 : Int32)), .val (.int (4 : Int32)), .val (.int (0 : Int32))] [])) _
  refine own_back (fun t k => XS.aloadN X0.here hx rfl (hb hby gc1970_0_d43) rfl rfl k) ?_
  show OwnGo p e below (s₁.setTop (mkF m 44 #[.val (.int (-19 : Int32)), .val (.int (4 : Int32)), .val (.ref t1), .val (.int (-19 : Int32)), .val (.int (70 : Int32)), .val (.int (4 : Int32)), .val (.int (0 : Int32))] [(.ref t1)])) _
  refine own_back (fun t k => XS.iinc X0.here hx rfl (hb hby gc1970_0_d44) rfl (l' := #[.val (.int (-19 : Int32)), .val (.int (4 : Int32)), .val (.ref t1), .val (.int (-19 : Int32)), .val (.int (70 : Int32)), .val (.int (3 : Int32)), .val (.int (0 : Int32))]) rfl k) ?_
  show OwnGo p e below (s₁.setTop (mkF m 47 #[.val (.int (-19 : Int32)), .val (.int (4 : Int32)), .val (.ref t1), .val (.int (-19 : Int32)), .val (.int (70 : Int32)), .val (.int (3 : Int32)), .val (.int (0 : Int32))] [(.ref t1)])) _
  refine own_back (fun t k => XS.iload X0.here hx rfl (hb hby gc1970_0_d47) rfl k) ?_
  show OwnGo p e below (s₁.setTop (mkF m 49 #[.val (.int (-19 : Int32)), .val (.int (4 : Int32)), .val (.ref t1), .val (.int (-19 : Int32)), .val (.int (70 : Int32)), .val (.int (3 : Int32)), .val (.int (0 : Int32))] [(.int (3 : Int32)), (.ref t1)])) _
  obtain ⟨T312, X312, e312, st312⟩ := getS2 X0 hx hZ hown (host := "") (Or.inl (hw _ (List.mem_of_getElem? (i := 233) rfl))) Via.refl e0 (SO1.ext OL.2) (g := (mkF m 49 #[.val (.int (-19 : Int32)), .val (.int (4 : Int32)), .val (.ref t1), .val (.int (-19 : Int32)), .val (.int (70 : Int32)), .val (.int (3 : Int32)), .val (.int (0 : Int32))] [(.int (3 : Int32)), (.ref t1)])) rfl (hb hby gc1970_0_d49)
  refine own_back st312 ?_
  show OwnGo p e below (T312.setTop (mkF m 52 #[.val (.int (-19 : Int32)), .val (.int (4 : Int32)), .val (.ref t1), .val (.int (-19 : Int32)), .val (.int (70 : Int32)), .val (.int (3 : Int32)), .val (.int (0 : Int32))] [(.ref wO), (.int (3 : Int32)), (.ref t1)])) _
  refine own_back (fun t k => XS.iload X312.here hx rfl (hb hby gc1970_0_d52) rfl k) ?_
  show OwnGo p e below (T312.setTop (mkF m 54 #[.val (.int (-19 : Int32)), .val (.int (4 : Int32)), .val (.ref t1), .val (.int (-19 : Int32)), .val (.int (70 : Int32)), .val (.int (3 : Int32)), .val (.int (0 : Int32))] [(.int (70 : Int32)), (.ref wO), (.int (3 : Int32)), (.ref t1)])) _
  obtain ⟨c313, A313, q313, S313, M313, H313, U313⟩ := id (AO1.ext OL.2)
  have ib314 : ¬ ((70 : Int32) < 0 ∨ c313.slots.size ≤ ((70 : Int32)).toNatClampNeg) := (inb_of S313 ⟨by decide, by decide⟩)
  refine own_back (fun t k => X312.baloadBytes hx (j := (70 : Int32)) (v := (.int (48 : Int32))) (own_hat e312 A313.1) (State.isArrayOf_alike hZ.alike A313.2.1) A313.2.2 ib314 (H313.at ib314 (by decide)) (g := (mkF m 54 #[.val (.int (-19 : Int32)), .val (.int (4 : Int32)), .val (.ref t1), .val (.int (-19 : Int32)), .val (.int (70 : Int32)), .val (.int (3 : Int32)), .val (.int (0 : Int32))] [(.int (70 : Int32)), (.ref wO), (.int (3 : Int32)), (.ref t1)])) rfl rfl (hb hby gc1970_0_d54) t k) ?_
  show OwnGo p e below (T312.setTop (mkF m 55 #[.val (.int (-19 : Int32)), .val (.int (4 : Int32)), .val (.ref t1), .val (.int (-19 : Int32)), .val (.int (70 : Int32)), .val (.int (3 : Int32)), .val (.int (0 : Int32))] [(.int (48 : Int32)), (.int (3 : Int32)), (.ref t1)])) _
  obtain ⟨c315, A315, q315, S315, M315, H315, U315⟩ := id V1
  obtain ⟨T316, h316, X316, e316, W316, st316⟩ := stB X312 hx hZ e312 A315 (j := (3 : Int32)) (inb_of S315 ⟨by decide, by decide⟩) (g := (mkF m 55 #[.val (.int (-19 : Int32)), .val (.int (4 : Int32)), .val (.ref t1), .val (.int (-19 : Int32)), .val (.int (70 : Int32)), .val (.int (3 : Int32)), .val (.int (0 : Int32))] [(.int (48 : Int32)), (.int (3 : Int32)), (.ref t1)])) rfl rfl (hb hby gc1970_0_d55)
  have O317 := OL.wr W316 g1
  have KP318 := KP0.wr W316 (Or.inl (List.mem_of_getElem? (i := 0) rfl))
  have Zs319 := Nat.le_trans Z0 (Keep.of_wr W316).1
  have f320 := (AO1.ext OL.2).other W316 (Old.ne OL AO1.lt g1)
  have f321 := (AO2.ext OL.2).other W316 (Old.ne OL AO2.lt g1)
  have V322 : Arv Z h316 t1 k1 .byte (10 : Int32) [(.int x0), (.int x1), (.int x2), (.int (48 : Int32).toInt8.toInt32), (.int x4), (.int x5), (.int x6), (.int x7), (.int x8), (.int x9)] (.int 0) := Arv.set A315 q315 S315 M315 H315 U315 (fits_nar_byte _) W316 3 rfl (Nat.le_of_ble_eq_true rfl)
  have N323 := Fr.snoc X316 N0 g1
  refine own_back st316 ?_
  show OwnGo p e below (T316.setTop (mkF m 56 #[.val (.int (-19 : Int32)), .val (.int (4 : Int32)), .val (.ref t1), .val (.int (-19 : Int32)), .val (.int (70 : Int32)), .val (.int (3 : Int32)), .val (.int (0 : Int32))] [])) _
  refine own_back (fun t k => XS.aloadN X316.here hx rfl (hb hby gc1970_0_d56) rfl rfl k) ?_
  show OwnGo p e below (T316.setTop (mkF m 57 #[.val (.int (-19 : Int32)), .val (.int (4 : Int32)), .val (.ref t1), .val (.int (-19 : Int32)), .val (.int (70 : Int32)), .val (.int (3 : Int32)), .val (.int (0 : Int32))] [(.ref t1)])) _
  refine own_back (fun t k => XS.iinc X316.here hx rfl (hb hby gc1970_0_d57) rfl (l' := #[.val (.int (-19 : Int32)), .val (.int (4 : Int32)), .val (.ref t1), .val (.int (-19 : Int32)), .val (.int (70 : Int32)), .val (.int (2 : Int32)), .val (.int (0 : Int32))]) rfl k) ?_
  show OwnGo p e below (T316.setTop (mkF m 60 #[.val (.int (-19 : Int32)), .val (.int (4 : Int32)), .val (.ref t1), .val (.int (-19 : Int32)), .val (.int (70 : Int32)), .val (.int (2 : Int32)), .val (.int (0 : Int32))] [(.ref t1)])) _
  refine own_back (fun t k => XS.iload X316.here hx rfl (hb hby gc1970_0_d60) rfl k) ?_
  show OwnGo p e below (T316.setTop (mkF m 62 #[.val (.int (-19 : Int32)), .val (.int (4 : Int32)), .val (.ref t1), .val (.int (-19 : Int32)), .val (.int (70 : Int32)), .val (.int (2 : Int32)), .val (.int (0 : Int32))] [(.int (2 : Int32)), (.ref t1)])) _
  obtain ⟨T324, X324, e324, st324⟩ := getS2 X316 hx hZ hown (host := "") (Or.inl (hw _ (List.mem_of_getElem? (i := 234) rfl))) Via.refl e316 (SO2.ext O317.2) (g := (mkF m 62 #[.val (.int (-19 : Int32)), .val (.int (4 : Int32)), .val (.ref t1), .val (.int (-19 : Int32)), .val (.int (70 : Int32)), .val (.int (2 : Int32)), .val (.int (0 : Int32))] [(.int (2 : Int32)), (.ref t1)])) rfl (hb hby gc1970_0_d62)
  refine own_back st324 ?_
  show OwnGo p e below (T324.setTop (mkF m 65 #[.val (.int (-19 : Int32)), .val (.int (4 : Int32)), .val (.ref t1), .val (.int (-19 : Int32)), .val (.int (70 : Int32)), .val (.int (2 : Int32)), .val (.int (0 : Int32))] [(.ref wT), (.int (2 : Int32)), (.ref t1)])) _
  refine own_back (fun t k => XS.iload X324.here hx rfl (hb hby gc1970_0_d65) rfl k) ?_
  show OwnGo p e below (T324.setTop (mkF m 67 #[.val (.int (-19 : Int32)), .val (.int (4 : Int32)), .val (.ref t1), .val (.int (-19 : Int32)), .val (.int (70 : Int32)), .val (.int (2 : Int32)), .val (.int (0 : Int32))] [(.int (70 : Int32)), (.ref wT), (.int (2 : Int32)), (.ref t1)])) _
  obtain ⟨c325, A325, q325, S325, M325, H325, U325⟩ := id f321
  have ib326 : ¬ ((70 : Int32) < 0 ∨ c325.slots.size ≤ ((70 : Int32)).toNatClampNeg) := (inb_of S325 ⟨by decide, by decide⟩)
  refine own_back (fun t k => X324.baloadBytes hx (j := (70 : Int32)) (v := (.int (55 : Int32))) (own_hat e324 A325.1) (State.isArrayOf_alike hZ.alike A325.2.1) A325.2.2 ib326 (H325.at ib326 (by decide)) (g := (mkF m 67 #[.val (.int (-19 : Int32)), .val (.int (4 : Int32)), .val (.ref t1), .val (.int (-19 : Int32)), .val (.int (70 : Int32)), .val (.int (2 : Int32)), .val (.int (0 : Int32))] [(.int (70 : Int32)), (.ref wT), (.int (2 : Int32)), (.ref t1)])) rfl rfl (hb hby gc1970_0_d67) t k) ?_
  show OwnGo p e below (T324.setTop (mkF m 68 #[.val (.int (-19 : Int32)), .val (.int (4 : Int32)), .val (.ref t1), .val (.int (-19 : Int32)), .val (.int (70 : Int32)), .val (.int (2 : Int32)), .val (.int (0 : Int32))] [(.int (55 : Int32)), (.int (2 : Int32)), (.ref t1)])) _
  obtain ⟨c327, A327, q327, S327, M327, H327, U327⟩ := id V322
  obtain ⟨T328, h328, X328, e328, W328, st328⟩ := stB X324 hx hZ e324 A327 (j := (2 : Int32)) (inb_of S327 ⟨by decide, by decide⟩) (g := (mkF m 68 #[.val (.int (-19 : Int32)), .val (.int (4 : Int32)), .val (.ref t1), .val (.int (-19 : Int32)), .val (.int (70 : Int32)), .val (.int (2 : Int32)), .val (.int (0 : Int32))] [(.int (55 : Int32)), (.int (2 : Int32)), (.ref t1)])) rfl rfl (hb hby gc1970_0_d68)
  have O329 := O317.wr W328 g1
  have KP330 := KP318.wr W328 (Or.inl (List.mem_of_getElem? (i := 0) rfl))
  have Zs331 := Nat.le_trans Zs319 (Keep.of_wr W328).1
  have f332 := f320.other W328 (Old.ne OL AO1.lt g1)
  have f333 := f321.other W328 (Old.ne OL AO2.lt g1)
  have V334 : Arv Z h328 t1 k1 .byte (10 : Int32) [(.int x0), (.int x1), (.int (55 : Int32).toInt8.toInt32), (.int (48 : Int32).toInt8.toInt32), (.int x4), (.int x5), (.int x6), (.int x7), (.int x8), (.int x9)] (.int 0) := Arv.set A327 q327 S327 M327 H327 U327 (fits_nar_byte _) W328 2 rfl (Nat.le_of_ble_eq_true rfl)
  have N335 := Fr.snoc X328 N323 g1
  refine own_back st328 ?_
  show OwnGo p e below (T328.setTop (mkF m 69 #[.val (.int (-19 : Int32)), .val (.int (4 : Int32)), .val (.ref t1), .val (.int (-19 : Int32)), .val (.int (70 : Int32)), .val (.int (2 : Int32)), .val (.int (0 : Int32))] [])) _
  refine own_back (fun t k => XS.goto X328.here hx rfl (pc0 := 69) (pc' := 22) rfl (hb hby gc1970_0_d69) (by decide) (by decide) k) ?_
  show OwnGo p e below (T328.setTop (mkF m 22 #[.val (.int (-19 : Int32)), .val (.int (4 : Int32)), .val (.ref t1), .val (.int (-19 : Int32)), .val (.int (70 : Int32)), .val (.int (2 : Int32)), .val (.int (0 : Int32))] [])) _
  refine own_back (fun t k => XS.iloadN X328.here hx rfl (hb hby gc1970_0_d22) rfl k) ?_
  show OwnGo p e below (T328.setTop (mkF m 23 #[.val (.int (-19 : Int32)), .val (.int (4 : Int32)), .val (.ref t1), .val (.int (-19 : Int32)), .val (.int (70 : Int32)), .val (.int (2 : Int32)), .val (.int (0 : Int32))] [(.int (-19 : Int32))])) _
  refine own_back (fun t k => XS.bipush X328.here hx rfl (hb hby gc1970_0_d23) k) ?_
  show OwnGo p e below (T328.setTop (mkF m 25 #[.val (.int (-19 : Int32)), .val (.int (4 : Int32)), .val (.ref t1), .val (.int (-19 : Int32)), .val (.int (70 : Int32)), .val (.int (2 : Int32)), .val (.int (0 : Int32))] [(.int (-100 : Int32)), (.int (-19 : Int32))])) _
  refine own_back (fun t k => XS.icmpYes X328.here hx rfl (pc0 := 25) (pc' := 72) rfl (hb hby gc1970_0_d25) rfl (Jvm.Free.XT.ii_gt_t (by decide)) (by decide) (by decide) k) ?_
  show OwnGo p e below (T328.setTop (mkF m 72 #[.val (.int (-19 : Int32)), .val (.int (4 : Int32)), .val (.ref t1), .val (.int (-19 : Int32)), .val (.int (70 : Int32)), .val (.int (2 : Int32)), .val (.int (0 : Int32))] [])) _
  refine own_back (fun t k => XS.aloadN X328.here hx rfl (hb hby gc1970_0_d72) rfl rfl k) ?_
  show OwnGo p e below (T328.setTop (mkF m 73 #[.val (.int (-19 : Int32)), .val (.int (4 : Int32)), .val (.ref t1), .val (.int (-19 : Int32)), .val (.int (70 : Int32)), .val (.int (2 : Int32)), .val (.int (0 : Int32))] [(.ref t1)])) _
  refine own_back (fun t k => XS.iinc X328.here hx rfl (hb hby gc1970_0_d73) rfl (l' := #[.val (.int (-19 : Int32)), .val (.int (4 : Int32)), .val (.ref t1), .val (.int (-19 : Int32)), .val (.int (70 : Int32)), .val (.int (1 : Int32)), .val (.int (0 : Int32))]) rfl k) ?_
  show OwnGo p e below (T328.setTop (mkF m 76 #[.val (.int (-19 : Int32)), .val (.int (4 : Int32)), .val (.ref t1), .val (.int (-19 : Int32)), .val (.int (70 : Int32)), .val (.int (1 : Int32)), .val (.int (0 : Int32))] [(.ref t1)])) _
  refine own_back (fun t k => XS.iload X328.here hx rfl (hb hby gc1970_0_d76) rfl k) ?_
  show OwnGo p e below (T328.setTop (mkF m 78 #[.val (.int (-19 : Int32)), .val (.int (4 : Int32)), .val (.ref t1), .val (.int (-19 : Int32)), .val (.int (70 : Int32)), .val (.int (1 : Int32)), .val (.int (0 : Int32))] [(.int (1 : Int32)), (.ref t1)])) _
  obtain ⟨T336, X336, e336, st336⟩ := getS2 X328 hx hZ hown (host := "") (Or.inl (hw _ (List.mem_of_getElem? (i := 233) rfl))) Via.refl e328 (SO1.ext O329.2) (g := (mkF m 78 #[.val (.int (-19 : Int32)), .val (.int (4 : Int32)), .val (.ref t1), .val (.int (-19 : Int32)), .val (.int (70 : Int32)), .val (.int (1 : Int32)), .val (.int (0 : Int32))] [(.int (1 : Int32)), (.ref t1)])) rfl (hb hby gc1970_0_d78)
  refine own_back st336 ?_
  show OwnGo p e below (T336.setTop (mkF m 81 #[.val (.int (-19 : Int32)), .val (.int (4 : Int32)), .val (.ref t1), .val (.int (-19 : Int32)), .val (.int (70 : Int32)), .val (.int (1 : Int32)), .val (.int (0 : Int32))] [(.ref wO), (.int (1 : Int32)), (.ref t1)])) _
  refine own_back (fun t k => XS.iloadN X336.here hx rfl (hb hby gc1970_0_d81) rfl k) ?_
  show OwnGo p e below (T336.setTop (mkF m 82 #[.val (.int (-19 : Int32)), .val (.int (4 : Int32)), .val (.ref t1), .val (.int (-19 : Int32)), .val (.int (70 : Int32)), .val (.int (1 : Int32)), .val (.int (0 : Int32))] [(.int (-19 : Int32)), (.ref wO), (.int (1 : Int32)), (.ref t1)])) _
  refine own_back (fun t k => XS.ineg X336.here hx rfl (hb hby gc1970_0_d82) rfl k) ?_
  show OwnGo p e below (T336.setTop (mkF m 83 #[.val (.int (-19 : Int32)), .val (.int (4 : Int32)), .val (.ref t1), .val (.int (-19 : Int32)), .val (.int (70 : Int32)), .val (.int (1 : Int32)), .val (.int (0 : Int32))] [(.int (-(-19 : Int32))), (.ref wO), (.int (1 : Int32)), (.ref t1)])) _
  rw [show (-(-19 : Int32)) = (19 : Int32) from by decide]
  show OwnGo p e below (T336.setTop (mkF m 83 #[.val (.int (-19 : Int32)), .val (.int (4 : Int32)), .val (.ref t1), .val (.int (-19 : Int32)), .val (.int (70 : Int32)), .val (.int (1 : Int32)), .val (.int (0 : Int32))] [(.int (19 : Int32)), (.ref wO), (.int (1 : Int32)), (.ref t1)])) _
  obtain ⟨c337, A337, q337, S337, M337, H337, U337⟩ := id f332
  have ib338 : ¬ ((19 : Int32) < 0 ∨ c337.slots.size ≤ ((19 : Int32)).toNatClampNeg) := (inb_of S337 ⟨by decide, by decide⟩)
  refine own_back (fun t k => X336.baloadBytes hx (j := (19 : Int32)) (v := (.int (57 : Int32))) (own_hat e336 A337.1) (State.isArrayOf_alike hZ.alike A337.2.1) A337.2.2 ib338 (H337.at ib338 (by decide)) (g := (mkF m 83 #[.val (.int (-19 : Int32)), .val (.int (4 : Int32)), .val (.ref t1), .val (.int (-19 : Int32)), .val (.int (70 : Int32)), .val (.int (1 : Int32)), .val (.int (0 : Int32))] [(.int (19 : Int32)), (.ref wO), (.int (1 : Int32)), (.ref t1)])) rfl rfl (hb hby gc1970_0_d83) t k) ?_
  show OwnGo p e below (T336.setTop (mkF m 84 #[.val (.int (-19 : Int32)), .val (.int (4 : Int32)), .val (.ref t1), .val (.int (-19 : Int32)), .val (.int (70 : Int32)), .val (.int (1 : Int32)), .val (.int (0 : Int32))] [(.int (57 : Int32)), (.int (1 : Int32)), (.ref t1)])) _
  obtain ⟨c339, A339, q339, S339, M339, H339, U339⟩ := id V334
  obtain ⟨T340, h340, X340, e340, W340, st340⟩ := stB X336 hx hZ e336 A339 (j := (1 : Int32)) (inb_of S339 ⟨by decide, by decide⟩) (g := (mkF m 84 #[.val (.int (-19 : Int32)), .val (.int (4 : Int32)), .val (.ref t1), .val (.int (-19 : Int32)), .val (.int (70 : Int32)), .val (.int (1 : Int32)), .val (.int (0 : Int32))] [(.int (57 : Int32)), (.int (1 : Int32)), (.ref t1)])) rfl rfl (hb hby gc1970_0_d84)
  have O341 := O329.wr W340 g1
  have KP342 := KP330.wr W340 (Or.inl (List.mem_of_getElem? (i := 0) rfl))
  have Zs343 := Nat.le_trans Zs331 (Keep.of_wr W340).1
  have f344 := f332.other W340 (Old.ne OL AO1.lt g1)
  have f345 := f333.other W340 (Old.ne OL AO2.lt g1)
  have V346 : Arv Z h340 t1 k1 .byte (10 : Int32) [(.int x0), (.int (57 : Int32).toInt8.toInt32), (.int (55 : Int32).toInt8.toInt32), (.int (48 : Int32).toInt8.toInt32), (.int x4), (.int x5), (.int x6), (.int x7), (.int x8), (.int x9)] (.int 0) := Arv.set A339 q339 S339 M339 H339 U339 (fits_nar_byte _) W340 1 rfl (Nat.le_of_ble_eq_true rfl)
  have N347 := Fr.snoc X340 N335 g1
  refine own_back st340 ?_
  show OwnGo p e below (T340.setTop (mkF m 85 #[.val (.int (-19 : Int32)), .val (.int (4 : Int32)), .val (.ref t1), .val (.int (-19 : Int32)), .val (.int (70 : Int32)), .val (.int (1 : Int32)), .val (.int (0 : Int32))] [])) _
  refine own_back (fun t k => XS.iloadN X340.here hx rfl (hb hby gc1970_0_d85) rfl k) ?_
  show OwnGo p e below (T340.setTop (mkF m 86 #[.val (.int (-19 : Int32)), .val (.int (4 : Int32)), .val (.ref t1), .val (.int (-19 : Int32)), .val (.int (70 : Int32)), .val (.int (1 : Int32)), .val (.int (0 : Int32))] [(.int (-19 : Int32))])) _
  refine own_back (fun t k => XS.bipush X340.here hx rfl (hb hby gc1970_0_d86) k) ?_
  show OwnGo p e below (T340.setTop (mkF m 88 #[.val (.int (-19 : Int32)), .val (.int (4 : Int32)), .val (.ref t1), .val (.int (-19 : Int32)), .val (.int (70 : Int32)), .val (.int (1 : Int32)), .val (.int (0 : Int32))] [(.int (-9 : Int32)), (.int (-19 : Int32))])) _
  refine own_back (fun t k => XS.icmpNo X340.here hx rfl (hb hby gc1970_0_d88) rfl (Jvm.Free.XT.ii_ge_f (by decide)) k) ?_
  show OwnGo p e below (T340.setTop (mkF m 91 #[.val (.int (-19 : Int32)), .val (.int (4 : Int32)), .val (.ref t1), .val (.int (-19 : Int32)), .val (.int (70 : Int32)), .val (.int (1 : Int32)), .val (.int (0 : Int32))] [])) _
  refine own_back (fun t k => XS.aloadN X340.here hx rfl (hb hby gc1970_0_d91) rfl rfl k) ?_
  show OwnGo p e below (T340.setTop (mkF m 92 #[.val (.int (-19 : Int32)), .val (.int (4 : Int32)), .val (.ref t1), .val (.int (-19 : Int32)), .val (.int (70 : Int32)), .val (.int (1 : Int32)), .val (.int (0 : Int32))] [(.ref t1)])) _
  refine own_back (fun t k => XS.iinc X340.here hx rfl (hb hby gc1970_0_d92) rfl (l' := #[.val (.int (-19 : Int32)), .val (.int (4 : Int32)), .val (.ref t1), .val (.int (-19 : Int32)), .val (.int (70 : Int32)), .val (.int (0 : Int32)), .val (.int (0 : Int32))]) rfl k) ?_
  show OwnGo p e below (T340.setTop (mkF m 95 #[.val (.int (-19 : Int32)), .val (.int (4 : Int32)), .val (.ref t1), .val (.int (-19 : Int32)), .val (.int (70 : Int32)), .val (.int (0 : Int32)), .val (.int (0 : Int32))] [(.ref t1)])) _
  refine own_back (fun t k => XS.iload X340.here hx rfl (hb hby gc1970_0_d95) rfl k) ?_
  show OwnGo p e below (T340.setTop (mkF m 97 #[.val (.int (-19 : Int32)), .val (.int (4 : Int32)), .val (.ref t1), .val (.int (-19 : Int32)), .val (.int (70 : Int32)), .val (.int (0 : Int32)), .val (.int (0 : Int32))] [(.int (0 : Int32)), (.ref t1)])) _
  obtain ⟨T348, X348, e348, st348⟩ := getS2 X340 hx hZ hown (host := "") (Or.inl (hw _ (List.mem_of_getElem? (i := 234) rfl))) Via.refl e340 (SO2.ext O341.2) (g := (mkF m 97 #[.val (.int (-19 : Int32)), .val (.int (4 : Int32)), .val (.ref t1), .val (.int (-19 : Int32)), .val (.int (70 : Int32)), .val (.int (0 : Int32)), .val (.int (0 : Int32))] [(.int (0 : Int32)), (.ref t1)])) rfl (hb hby gc1970_0_d97)
  refine own_back st348 ?_
  show OwnGo p e below (T348.setTop (mkF m 100 #[.val (.int (-19 : Int32)), .val (.int (4 : Int32)), .val (.ref t1), .val (.int (-19 : Int32)), .val (.int (70 : Int32)), .val (.int (0 : Int32)), .val (.int (0 : Int32))] [(.ref wT), (.int (0 : Int32)), (.ref t1)])) _
  refine own_back (fun t k => XS.iloadN X348.here hx rfl (hb hby gc1970_0_d100) rfl k) ?_
  show OwnGo p e below (T348.setTop (mkF m 101 #[.val (.int (-19 : Int32)), .val (.int (4 : Int32)), .val (.ref t1), .val (.int (-19 : Int32)), .val (.int (70 : Int32)), .val (.int (0 : Int32)), .val (.int (0 : Int32))] [(.int (-19 : Int32)), (.ref wT), (.int (0 : Int32)), (.ref t1)])) _
  refine own_back (fun t k => XS.ineg X348.here hx rfl (hb hby gc1970_0_d101) rfl k) ?_
  show OwnGo p e below (T348.setTop (mkF m 102 #[.val (.int (-19 : Int32)), .val (.int (4 : Int32)), .val (.ref t1), .val (.int (-19 : Int32)), .val (.int (70 : Int32)), .val (.int (0 : Int32)), .val (.int (0 : Int32))] [(.int (-(-19 : Int32))), (.ref wT), (.int (0 : Int32)), (.ref t1)])) _
  rw [show (-(-19 : Int32)) = (19 : Int32) from by decide]
  show OwnGo p e below (T348.setTop (mkF m 102 #[.val (.int (-19 : Int32)), .val (.int (4 : Int32)), .val (.ref t1), .val (.int (-19 : Int32)), .val (.int (70 : Int32)), .val (.int (0 : Int32)), .val (.int (0 : Int32))] [(.int (19 : Int32)), (.ref wT), (.int (0 : Int32)), (.ref t1)])) _
  obtain ⟨c349, A349, q349, S349, M349, H349, U349⟩ := id f345
  have ib350 : ¬ ((19 : Int32) < 0 ∨ c349.slots.size ≤ ((19 : Int32)).toNatClampNeg) := (inb_of S349 ⟨by decide, by decide⟩)
  refine own_back (fun t k => X348.baloadBytes hx (j := (19 : Int32)) (v := (.int (49 : Int32))) (own_hat e348 A349.1) (State.isArrayOf_alike hZ.alike A349.2.1) A349.2.2 ib350 (H349.at ib350 (by decide)) (g := (mkF m 102 #[.val (.int (-19 : Int32)), .val (.int (4 : Int32)), .val (.ref t1), .val (.int (-19 : Int32)), .val (.int (70 : Int32)), .val (.int (0 : Int32)), .val (.int (0 : Int32))] [(.int (19 : Int32)), (.ref wT), (.int (0 : Int32)), (.ref t1)])) rfl rfl (hb hby gc1970_0_d102) t k) ?_
  show OwnGo p e below (T348.setTop (mkF m 103 #[.val (.int (-19 : Int32)), .val (.int (4 : Int32)), .val (.ref t1), .val (.int (-19 : Int32)), .val (.int (70 : Int32)), .val (.int (0 : Int32)), .val (.int (0 : Int32))] [(.int (49 : Int32)), (.int (0 : Int32)), (.ref t1)])) _
  obtain ⟨c351, A351, q351, S351, M351, H351, U351⟩ := id V346
  obtain ⟨T352, h352, X352, e352, W352, st352⟩ := stB X348 hx hZ e348 A351 (j := (0 : Int32)) (inb_of S351 ⟨by decide, by decide⟩) (g := (mkF m 103 #[.val (.int (-19 : Int32)), .val (.int (4 : Int32)), .val (.ref t1), .val (.int (-19 : Int32)), .val (.int (70 : Int32)), .val (.int (0 : Int32)), .val (.int (0 : Int32))] [(.int (49 : Int32)), (.int (0 : Int32)), (.ref t1)])) rfl rfl (hb hby gc1970_0_d103)
  have O353 := O341.wr W352 g1
  have KP354 := KP342.wr W352 (Or.inl (List.mem_of_getElem? (i := 0) rfl))
  have Zs355 := Nat.le_trans Zs343 (Keep.of_wr W352).1
  have f356 := f344.other W352 (Old.ne OL AO1.lt g1)
  have f357 := f345.other W352 (Old.ne OL AO2.lt g1)
  have V358 : Arv Z h352 t1 k1 .byte (10 : Int32) [(.int (49 : Int32).toInt8.toInt32), (.int (57 : Int32).toInt8.toInt32), (.int (55 : Int32).toInt8.toInt32), (.int (48 : Int32).toInt8.toInt32), (.int x4), (.int x5), (.int x6), (.int x7), (.int x8), (.int x9)] (.int 0) := Arv.set A351 q351 S351 M351 H351 U351 (fits_nar_byte _) W352 0 rfl (Nat.le_of_ble_eq_true rfl)
  have N359 := Fr.snoc X352 N347 g1
  refine own_back st352 ?_
  show OwnGo p e below (T352.setTop (mkF m 104 #[.val (.int (-19 : Int32)), .val (.int (4 : Int32)), .val (.ref t1), .val (.int (-19 : Int32)), .val (.int (70 : Int32)), .val (.int (0 : Int32)), .val (.int (0 : Int32))] [])) _
  refine own_back (fun t k => XS.iload X352.here hx rfl (hb hby gc1970_0_d104) rfl k) ?_
  show OwnGo p e below (T352.setTop (mkF m 106 #[.val (.int (-19 : Int32)), .val (.int (4 : Int32)), .val (.ref t1), .val (.int (-19 : Int32)), .val (.int (70 : Int32)), .val (.int (0 : Int32)), .val (.int (0 : Int32))] [(.int (0 : Int32))])) _
  refine own_back (fun t k => XS.ifYes X352.here hx rfl (pc0 := 106) (pc' := 118) rfl (hb hby gc1970_0_d106) rfl (Jvm.Free.XT.i0_eq_t (by decide)) (by decide) (by decide) k) ?_
  show OwnGo p e below (T352.setTop (mkF m 118 #[.val (.int (-19 : Int32)), .val (.int (4 : Int32)), .val (.ref t1), .val (.int (-19 : Int32)), .val (.int (70 : Int32)), .val (.int (0 : Int32)), .val (.int (0 : Int32))] [])) _
  refine own_back (fun t k => XS.iload X352.here hx rfl (hb hby gc1970_0_d118) rfl k) ?_
  show OwnGo p e below (T352.setTop (mkF m 120 #[.val (.int (-19 : Int32)), .val (.int (4 : Int32)), .val (.ref t1), .val (.int (-19 : Int32)), .val (.int (70 : Int32)), .val (.int (0 : Int32)), .val (.int (0 : Int32))] [(.int (0 : Int32))])) _
  refine own_retI X352 hx Bd.notSynchronized Bd.returns (hb hby gc1970_0_d120) e352 (Nat.le_of_ble_eq_true rfl) (Nat.le_of_ble_eq_true rfl) ?_
  exact ⟨rfl, N359, KP354, V358⟩
theorem gc1_6_d0 : decode jdk_33_method_12_code 0 = .ok (.iload_n 1, 1) := by decide +kernel
theorem gc1_6_d1 : decode jdk_33_method_12_code 1 = .ok (.istore 5, 2) := by decide +kernel
theorem gc1_6_d3 : decode jdk_33_method_12_code 3 = .ok (.iload_n 0, 1) := by decide +kernel
theorem gc1_6_d4 : decode jdk_33_method_12_code 4 = .ok (.ifCond .ge 7, 3) := by decide +kernel
theorem gc1_6_d11 : decode jdk_33_method_12_code 11 = .ok (.iconst 0, 1) := by decide +kernel
theorem gc1_6_d12 : decode jdk_33_method_12_code 12 = .ok (.istore 6, 2) := by decide +kernel
theorem gc1_6_d14 : decode jdk_33_method_12_code 14 = .ok (.iload 6, 2) := by decide +kernel
theorem gc1_6_d16 : decode jdk_33_method_12_code 16 = .ok (.ifCond .ne 6, 3) := by decide +kernel
theorem gc1_6_d19 : decode jdk_33_method_12_code 19 = .ok (.iload_n 0, 1) := by decide +kernel
theorem gc1_6_d20 : decode jdk_33_method_12_code 20 = .ok (.ineg, 1) := by decide +kernel
theorem gc1_6_d21 : decode jdk_33_method_12_code 21 = .ok (.istore_n 0, 1) := by decide +kernel
theorem gc1_6_d22 : decode jdk_33_method_12_code 22 = .ok (.iload_n 0, 1) := by decide +kernel
theorem gc1_6_d23 : decode jdk_33_method_12_code 23 = .ok (.bipush (-100), 2) := by decide +kernel
theorem gc1_6_d25 : decode jdk_33_method_12_code 25 = .ok (.if_icmp .gt 47, 3) := by decide +kernel
theorem gc1_6_d72 : decode jdk_33_method_12_code 72 = .ok (.aload_n 2, 1) := by decide +kernel
theorem gc1_6_d73 : decode jdk_33_method_12_code 73 = .ok (.iinc 5 (-1), 3) := by decide +kernel
theorem gc1_6_d76 : decode jdk_33_method_12_code 76 = .ok (.iload 5, 2) := by decide +kernel
theorem gc1_6_d78 : decode jdk_33_method_12_code 78 = .ok (.getstatic 83, 3) := by decide +kernel
theorem gc1_6_d81 : decode jdk_33_method_12_code 81 = .ok (.iload_n 0, 1) := by decide +kernel
theorem gc1_6_d82 : decode jdk_33_method_12_code 82 = .ok (.ineg, 1) := by decide +kernel
theorem gc1_6_d83 : decode jdk_33_method_12_code 83 = .ok (.baload, 1) := by decide +kernel
theorem gc1_6_d84 : decode jdk_33_method_12_code 84 = .ok (.bastore, 1) := by decide +kernel
theorem gc1_6_d85 : decode jdk_33_method_12_code 85 = .ok (.iload_n 0, 1) := by decide +kernel
theorem gc1_6_d86 : decode jdk_33_method_12_code 86 = .ok (.bipush (-9), 2) := by decide +kernel
theorem gc1_6_d88 : decode jdk_33_method_12_code 88 = .ok (.if_icmp .ge 16, 3) := by decide +kernel
theorem gc1_6_d104 : decode jdk_33_method_12_code 104 = .ok (.iload 6, 2) := by decide +kernel
theorem gc1_6_d106 : decode jdk_33_method_12_code 106 = .ok (.ifCond .eq 12, 3) := by decide +kernel
theorem gc1_6_d118 : decode jdk_33_method_12_code 118 = .ok (.iload 5, 2) := by decide +kernel
theorem gc1_6_d120 : decode jdk_33_method_12_code 120 = .ok (.ireturn, 1) := by decide +kernel
theorem gc1_6_pn : plainName "java/lang/Integer" = true := by first | (simp [plainName, overriddenIn]; done) | decide +kernel
theorem gc1_6_ef (m : MethodId) (x0 : Int32) (x1 : Int32) (x2 : Addr) : entryFrame m #[(.int x0), (.int x1), (.ref x2)] 7 = mkF m 0 #[.val (.int x0), .val (.int x1), .val (.ref x2), .unset, .unset, .unset, .unset] [] := by first | (simp [entryFrame, mkF, argsToLocals, Value.category]; done) | rfl
set_option maxRecDepth 65536 in
set_option maxHeartbeats 40000000 in
theorem rm_gc1_6 (l : Launch) (Z : State) (a0 : Array Value) (hw : ∀ d ∈ tables_1, d.before a0 Z = true) (ws : List Jvm.Cond) (t1 : Addr) (k1 : ClassId) (x0 : Int32) (x1 : Int32) (x2 : Int32) (x3 : Int32) (x4 : Int32) (x5 : Int32) (x6 : Int32) (x7 : Int32) (x8 : Int32) (x9 : Int32) (wO : Addr) (wT : Addr) (kO : ClassId) (kT : ClassId) (h0 : Heap) (n0 : Nat) (Z0 : n0 ≤ h0.size) (OL : Old Z n0 h0) (V1 : Arv Z h0 t1 k1 .byte (10 : Int32) [.int x0, .int x1, .int x2, .int x3, .int x4, .int x5, .int x6, .int x7, .int x8, .int x9] (.int 0)) (g1 : n0 ≤ t1) (SO1 : Sta Z Z.heap "java/lang/Integer" "DigitOnes" "[B" (.ref wO)) (SO2 : Sta Z Z.heap "java/lang/Integer" "DigitTens" "[B" (.ref wT)) (AO1 : Arv Z Z.heap wO kO .byte (100 : Int32) own_ones (.int 0)) (AO2 : Arv Z Z.heap wT kT .byte (100 : Int32) own_tens (.int 0)) :
    MetFree l (⟨"java/lang/Integer", "getChars", "(II[B)I"⟩ : MethodName) (head1 (Jvm.Cond.code (⟨"java/lang/Integer", "getChars", "(II[B)I"⟩ : MethodName) jdk_33_method_12_code 7 (some .int) :: ws) ({ frames := 0, cells := 0, slots := 0, locals := 0 } : Room)) (fun a U => a = #[(.int (1 : Int32)), (.int (7 : Int32)), (.ref t1)] ∧ Z.Warmed39 U.vm ∧ U.heap = h0) (fun _ _ _ _ _ => True) (fun _ U o U' => OwnEnd U (fun v h L => v = some (.int (6 : Int32)) ∧ Fr n0 L ∧ Keep h0 h [t1] ∧ Arv Z h t1 k1 .byte (10 : Int32) [.int x0, .int x1, .int x2, .int x3, .int x4, .int x5, .int 49, .int x7, .int x8, .int x9] (.int 0)) ({ frames := 0, cells := 0, slots := 0, locals := 0 } : Room).cells ({ frames := 0, cells := 0, slots := 0, locals := 0 } : Room).slots o U') := by
  refine MetFree.of_bodySF (plainFor_of_name gc1_6_pn) hisR ?_
  intro p e s m args below meth c s₁ Bd hml0 hP hK
  obtain ⟨rfl, hZ, hh⟩ := hP
  have hx := Bd.exec
  have hby := Bd.bytes
  have hml : c.maxLocals = 7 := hml0
  have hown : s.vm.findClass "java/lang/Integer" = some m.cls := findClass_of_methodNamed Bd.named
  have hnm := (name_of_methodNamed Bd.named Bd.method).1
  have X0 : Stand p l e ({ frames := 0, cells := 0, slots := 0, locals := 0 } : Room) s m #[(.int (1 : Int32)), (.int (7 : Int32)), (.ref t1)] below meth c s₁ [] 0 0 := Stand.of_body Bd
  have e0 : s₁.heap = h0 := by rw [← hh, Bd.state]; rfl
  have N0 := Fr.nil n0
  have KP0 := Keep.refl h0 [t1]
  refine own_go (Q := (OwnEnd s (fun v h L => v = some (.int (6 : Int32)) ∧ Fr n0 L ∧ Keep h0 h [t1] ∧ Arv Z h t1 k1 .byte (10 : Int32) [.int x0, .int x1, .int x2, .int x3, .int x4, .int x5, .int 49, .int x7, .int x8, .int x9] (.int 0)) ({ frames := 0, cells := 0, slots := 0, locals := 0 } : Room).cells ({ frames := 0, cells := 0, slots := 0, locals := 0 } : Room).slots)) ?_
  refine own_back (fun t k => castTop (gc1_6_ef m (1 : Int32) (7 : Int32) t1) k) ?_
  show OwnGo p e below (s₁.setTop (mkF m 0 #[.val (.int (1 : Int32)), .val (.int (7 : Int32)), .val (.ref t1), .unset, .unset, .unset, .unset] [])) _
  refine own_back (fun t k => XS.iloadN X0.here hx rfl (hb hby gc1_6_d0) rfl k) ?_
  show OwnGo p e below (s₁.setTop (mkF m 1 #[.val (.int (1 : Int32)), .val (.int (7 : Int32)), .val (.ref t1), .unset, .unset, .unset, .unset] [(.int (7 : Int32))])) _
  refine own_back (fun t k => XS.istore X0.here hx rfl (hb hby gc1_6_d1) rfl (l' := #[.val (.int (1 : Int32)), .val (.int (7 : Int32)), .val (.ref t1), .unset, .unset, .val (.int (7 : Int32)), .unset]) rfl k) ?_
  show OwnGo p e below (s₁.setTop (mkF m 3 #[.val (.int (1 : Int32)), .val (.int (7 : Int32)), .val (.ref t1), .unset, .unset, .val (.int (7 : Int32)), .unset] [])) _
  refine own_back (fun t k => XS.iloadN X0.here hx rfl (hb hby gc1_6_d3) rfl k) ?_
  show OwnGo p e below (s₁.setTop (mkF m 4 #[.val (.int (1 : Int32)), .val (.int (7 : Int32)), .val (.ref t1), .unset, .unset, .val (.int (7 : Int32)), .unset] [(.int (1 : Int32))])) _
  refine own_back (fun t k => XS.ifYes X0.here hx rfl (pc0 := 4) (pc' := 11) rfl (hb hby gc1_6_d4) rfl (Jvm.Free.XT.i0_ge_t (by decide)) (by decide) (by decide) k) ?_
  show OwnGo p e below (s₁.setTop (mkF m 11 #[.val (.int (1 : Int32)), .val (.int (7 : Int32)), .val (.ref t1), .unset, .unset, .val (.int (7 : Int32)), .unset] [])) _
  refine own_back (fun t k => XS.iconst X0.here hx rfl (hb hby gc1_6_d11) k) ?_
  show OwnGo p e below (s₁.setTop (mkF m 12 #[.val (.int (1 : Int32)), .val (.int (7 : Int32)), .val (.ref t1), .unset, .unset, .val (.int (7 : Int32)), .unset] [(.int (0 : Int32))])) _
  refine own_back (fun t k => XS.istore X0.here hx rfl (hb hby gc1_6_d12) rfl (l' := #[.val (.int (1 : Int32)), .val (.int (7 : Int32)), .val (.ref t1), .unset, .unset, .val (.int (7 : Int32)), .val (.int (0 : Int32))]) rfl k) ?_
  show OwnGo p e below (s₁.setTop (mkF m 14 #[.val (.int (1 : Int32)), .val (.int (7 : Int32)), .val (.ref t1), .unset, .unset, .val (.int (7 : Int32)), .val (.int (0 : Int32))] [])) _
  refine own_back (fun t k => XS.iload X0.here hx rfl (hb hby gc1_6_d14) rfl k) ?_
  show OwnGo p e below (s₁.setTop (mkF m 16 #[.val (.int (1 : Int32)), .val (.int (7 : Int32)), .val (.ref t1), .unset, .unset, .val (.int (7 : Int32)), .val (.int (0 : Int32))] [(.int (0 : Int32))])) _
  refine own_back (fun t k => XS.ifNo X0.here hx rfl (hb hby gc1_6_d16) rfl (Jvm.Free.XT.i0_ne_f (by decide)) k) ?_
  show OwnGo p e below (s₁.setTop (mkF m 19 #[.val (.int (1 : Int32)), .val (.int (7 : Int32)), .val (.ref t1), .unset, .unset, .val (.int (7 : Int32)), .val (.int (0 : Int32))] [])) _
  refine own_back (fun t k => XS.iloadN X0.here hx rfl (hb hby gc1_6_d19) rfl k) ?_
  show OwnGo p e below (s₁.setTop (mkF m 20 #[.val (.int (1 : Int32)), .val (.int (7 : Int32)), .val (.ref t1), .unset, .unset, .val (.int (7 : Int32)), .val (.int (0 : Int32))] [(.int (1 : Int32))])) _
  refine own_back (fun t k => XS.ineg X0.here hx rfl (hb hby gc1_6_d20) rfl k) ?_
  show OwnGo p e below (s₁.setTop (mkF m 21 #[.val (.int (1 : Int32)), .val (.int (7 : Int32)), .val (.ref t1), .unset, .unset, .val (.int (7 : Int32)), .val (.int (0 : Int32))] [(.int (-(1 : Int32)))])) _
  rw [show (-(1 : Int32)) = (-1 : Int32) from by decide]
  show OwnGo p e below (s₁.setTop (mkF m 21 #[.val (.int (1 : Int32)), .val (.int (7 : Int32)), .val (.ref t1), .unset, .unset, .val (.int (7 : Int32)), .val (.int (0 : Int32))] [(.int (-1 : Int32))])) _
  refine own_back (fun t k => XS.istoreN X0.here hx rfl (hb hby gc1_6_d21) rfl (l' := #[.val (.int (-1 : Int32)), .val (.int (7 : Int32)), .val (.ref t1), .unset, .unset, .val (.int (7 : Int32)), .val (.int (0 : Int32))]) rfl k) ?_
  show OwnGo p e below (s₁.setTop (mkF m 22 #[.val (.int (-1 : Int32)), .val (.int (7 : Int32)), .val (.ref t1), .unset, .unset, .val (.int (7 : Int32)), .val (.int (0 : Int32))] [])) _
  refine own_back (fun t k => XS.iloadN X0.here hx rfl (hb hby gc1_6_d22) rfl k) ?_
  show OwnGo p e below (s₁.setTop (mkF m 23 #[.val (.int (-1 : Int32)), .val (.int (7 : Int32)), .val (.ref t1), .unset, .unset, .val (.int (7 : Int32)), .val (.int (0 : Int32))] [(.int (-1 : Int32))])) _
  refine own_back (fun t k => XS.bipush X0.here hx rfl (hb hby gc1_6_d23) k) ?_
  show OwnGo p e below (s₁.setTop (mkF m 25 #[.val (.int (-1 : Int32)), .val (.int (7 : Int32)), .val (.ref t1), .unset, .unset, .val (.int (7 : Int32)), .val (.int (0 : Int32))] [(.int (-100 : Int32)), (.int (-1 : Int32))])) _
  refine own_back (fun t k => XS.icmpYes X0.here hx rfl (pc0 := 25) (pc' := 72) rfl (hb hby gc1_6_d25) rfl (Jvm.Free.XT.ii_gt_t (by decide)) (by decide) (by decide) k) ?_
  show OwnGo p e below (s₁.setTop (mkF m 72 #[.val (.int (-1 : Int32)), .val (.int (7 : Int32)), .val (.ref t1), .unset, .unset, .val (.int (7 : Int32)), .val (.int (0 : Int32))] [])) _
  refine own_back (fun t k => XS.aloadN X0.here hx rfl (hb hby gc1_6_d72) rfl rfl k) ?_
  show OwnGo p e below (s₁.setTop (mkF m 73 #[.val (.int (-1 : Int32)), .val (.int (7 : Int32)), .val (.ref t1), .unset, .unset, .val (.int (7 : Int32)), .val (.int (0 : Int32))] [(.ref t1)])) _
  refine own_back (fun t k => XS.iinc X0.here hx rfl (hb hby gc1_6_d73) rfl (l' := #[.val (.int (-1 : Int32)), .val (.int (7 : Int32)), .val (.ref t1), .unset, .unset, .val (.int (6 : Int32)), .val (.int (0 : Int32))]) rfl k) ?_
  show OwnGo p e below (s₁.setTop (mkF m 76 #[.val (.int (-1 : Int32)), .val (.int (7 : Int32)), .val (.ref t1), .unset, .unset, .val (.int (6 : Int32)), .val (.int (0 : Int32))] [(.ref t1)])) _
  refine own_back (fun t k => XS.iload X0.here hx rfl (hb hby gc1_6_d76) rfl k) ?_
  show OwnGo p e below (s₁.setTop (mkF m 78 #[.val (.int (-1 : Int32)), .val (.int (7 : Int32)), .val (.ref t1), .unset, .unset, .val (.int (6 : Int32)), .val (.int (0 : Int32))] [(.int (6 : Int32)), (.ref t1)])) _
  obtain ⟨T360, X360, e360, st360⟩ := getS2 X0 hx hZ hown (host := "") (Or.inl (hw _ (List.mem_of_getElem? (i := 233) rfl))) Via.refl e0 (SO1.ext OL.2) (g := (mkF m 78 #[.val (.int (-1 : Int32)), .val (.int (7 : Int32)), .val (.ref t1), .unset, .unset, .val (.int (6 : Int32)), .val (.int (0 : Int32))] [(.int (6 : Int32)), (.ref t1)])) rfl (hb hby gc1_6_d78)
  refine own_back st360 ?_
  show OwnGo p e below (T360.setTop (mkF m 81 #[.val (.int (-1 : Int32)), .val (.int (7 : Int32)), .val (.ref t1), .unset, .unset, .val (.int (6 : Int32)), .val (.int (0 : Int32))] [(.ref wO), (.int (6 : Int32)), (.ref t1)])) _
  refine own_back (fun t k => XS.iloadN X360.here hx rfl (hb hby gc1_6_d81) rfl k) ?_
  show OwnGo p e below (T360.setTop (mkF m 82 #[.val (.int (-1 : Int32)), .val (.int (7 : Int32)), .val (.ref t1), .unset, .unset, .val (.int (6 : Int32)), .val (.int (0 : Int32))] [(.int (-1 : Int32)), (.ref wO), (.int (6 : Int32)), (.ref t1)])) _
  refine own_back (fun t k => XS.ineg X360.here hx rfl (hb hby gc1_6_d82) rfl k) ?_
  show OwnGo p e below (T360.setTop (mkF m 83 #[.val (.int (-1 : Int32)), .val (.int (7 : Int32)), .val (.ref t1), .unset, .unset, .val (.int (6 : Int32)), .val (.int (0 : Int32))] [(.int (-(-1 : Int32))), (.ref wO), (.int (6 : Int32)), (.ref t1)])) _
  rw [show (-(-1 : Int32)) = (1 : Int32) from by decide]
  show OwnGo p e below (T360.setTop (mkF m 83 #[.val (.int (-1 : Int32)), .val (.int (7 : Int32)), .val (.ref t1), .unset, .unset, .val (.int (6 : Int32)), .val (.int (0 : Int32))] [(.int (1 : Int32)), (.ref wO), (.int (6 : Int32)), (.ref t1)])) _
  obtain ⟨c361, A361, q361, S361, M361, H361, U361⟩ := id (AO1.ext OL.2)
  have ib362 : ¬ ((1 : Int32) < 0 ∨ c361.slots.size ≤ ((1 : Int32)).toNatClampNeg) := (inb_of S361 ⟨by decide, by decide⟩)
  refine own_back (fun t k => X360.baloadBytes hx (j := (1 : Int32)) (v := (.int (49 : Int32))) (own_hat e360 A361.1) (State.isArrayOf_alike hZ.alike A361.2.1) A361.2.2 ib362 (H361.at ib362 (by decide)) (g := (mkF m 83 #[.val (.int (-1 : Int32)), .val (.int (7 : Int32)), .val (.ref t1), .unset, .unset, .val (.int (6 : Int32)), .val (.int (0 : Int32))] [(.int (1 : Int32)), (.ref wO), (.int (6 : Int32)), (.ref t1)])) rfl rfl (hb hby gc1_6_d83) t k) ?_
  show OwnGo p e below (T360.setTop (mkF m 84 #[.val (.int (-1 : Int32)), .val (.int (7 : Int32)), .val (.ref t1), .unset, .unset, .val (.int (6 : Int32)), .val (.int (0 : Int32))] [(.int (49 : Int32)), (.int (6 : Int32)), (.ref t1)])) _
  obtain ⟨c363, A363, q363, S363, M363, H363, U363⟩ := id V1
  obtain ⟨T364, h364, X364, e364, W364, st364⟩ := stB X360 hx hZ e360 A363 (j := (6 : Int32)) (inb_of S363 ⟨by decide, by decide⟩) (g := (mkF m 84 #[.val (.int (-1 : Int32)), .val (.int (7 : Int32)), .val (.ref t1), .unset, .unset, .val (.int (6 : Int32)), .val (.int (0 : Int32))] [(.int (49 : Int32)), (.int (6 : Int32)), (.ref t1)])) rfl rfl (hb hby gc1_6_d84)
  have O365 := OL.wr W364 g1
  have KP366 := KP0.wr W364 (Or.inl (List.mem_of_getElem? (i := 0) rfl))
  have Zs367 := Nat.le_trans Z0 (Keep.of_wr W364).1
  have f368 := (AO1.ext OL.2).other W364 (Old.ne OL AO1.lt g1)
  have f369 := (AO2.ext OL.2).other W364 (Old.ne OL AO2.lt g1)
  have V370 : Arv Z h364 t1 k1 .byte (10 : Int32) [(.int x0), (.int x1), (.int x2), (.int x3), (.int x4), (.int x5), (.int (49 : Int32).toInt8.toInt32), (.int x7), (.int x8), (.int x9)] (.int 0) := Arv.set A363 q363 S363 M363 H363 U363 (fits_nar_byte _) W364 6 rfl (Nat.le_of_ble_eq_true rfl)
  have N371 := Fr.snoc X364 N0 g1
  refine own_back st364 ?_
  show OwnGo p e below (T364.setTop (mkF m 85 #[.val (.int (-1 : Int32)), .val (.int (7 : Int32)), .val (.ref t1), .unset, .unset, .val (.int (6 : Int32)), .val (.int (0 : Int32))] [])) _
  refine own_back (fun t k => XS.iloadN X364.here hx rfl (hb hby gc1_6_d85) rfl k) ?_
  show OwnGo p e below (T364.setTop (mkF m 86 #[.val (.int (-1 : Int32)), .val (.int (7 : Int32)), .val (.ref t1), .unset, .unset, .val (.int (6 : Int32)), .val (.int (0 : Int32))] [(.int (-1 : Int32))])) _
  refine own_back (fun t k => XS.bipush X364.here hx rfl (hb hby gc1_6_d86) k) ?_
  show OwnGo p e below (T364.setTop (mkF m 88 #[.val (.int (-1 : Int32)), .val (.int (7 : Int32)), .val (.ref t1), .unset, .unset, .val (.int (6 : Int32)), .val (.int (0 : Int32))] [(.int (-9 : Int32)), (.int (-1 : Int32))])) _
  refine own_back (fun t k => XS.icmpYes X364.here hx rfl (pc0 := 88) (pc' := 104) rfl (hb hby gc1_6_d88) rfl (Jvm.Free.XT.ii_ge_t (by decide)) (by decide) (by decide) k) ?_
  show OwnGo p e below (T364.setTop (mkF m 104 #[.val (.int (-1 : Int32)), .val (.int (7 : Int32)), .val (.ref t1), .unset, .unset, .val (.int (6 : Int32)), .val (.int (0 : Int32))] [])) _
  refine own_back (fun t k => XS.iload X364.here hx rfl (hb hby gc1_6_d104) rfl k) ?_
  show OwnGo p e below (T364.setTop (mkF m 106 #[.val (.int (-1 : Int32)), .val (.int (7 : Int32)), .val (.ref t1), .unset, .unset, .val (.int (6 : Int32)), .val (.int (0 : Int32))] [(.int (0 : Int32))])) _
  refine own_back (fun t k => XS.ifYes X364.here hx rfl (pc0 := 106) (pc' := 118) rfl (hb hby gc1_6_d106) rfl (Jvm.Free.XT.i0_eq_t (by decide)) (by decide) (by decide) k) ?_
  show OwnGo p e below (T364.setTop (mkF m 118 #[.val (.int (-1 : Int32)), .val (.int (7 : Int32)), .val (.ref t1), .unset, .unset, .val (.int (6 : Int32)), .val (.int (0 : Int32))] [])) _
  refine own_back (fun t k => XS.iload X364.here hx rfl (hb hby gc1_6_d118) rfl k) ?_
  show OwnGo p e below (T364.setTop (mkF m 120 #[.val (.int (-1 : Int32)), .val (.int (7 : Int32)), .val (.ref t1), .unset, .unset, .val (.int (6 : Int32)), .val (.int (0 : Int32))] [(.int (6 : Int32))])) _
  refine own_retI X364 hx Bd.notSynchronized Bd.returns (hb hby gc1_6_d120) e364 (Nat.le_of_ble_eq_true rfl) (Nat.le_of_ble_eq_true rfl) ?_
  exact ⟨rfl, N371, KP366, V370⟩
theorem gc1_9_d0 : decode jdk_33_method_12_code 0 = .ok (.iload_n 1, 1) := by decide +kernel
theorem gc1_9_d1 : decode jdk_33_method_12_code 1 = .ok (.istore 5, 2) := by decide +kernel
theorem gc1_9_d3 : decode jdk_33_method_12_code 3 = .ok (.iload_n 0, 1) := by decide +kernel
theorem gc1_9_d4 : decode jdk_33_method_12_code 4 = .ok (.ifCond .ge 7, 3) := by decide +kernel
theorem gc1_9_d11 : decode jdk_33_method_12_code 11 = .ok (.iconst 0, 1) := by decide +kernel
theorem gc1_9_d12 : decode jdk_33_method_12_code 12 = .ok (.istore 6, 2) := by decide +kernel
theorem gc1_9_d14 : decode jdk_33_method_12_code 14 = .ok (.iload 6, 2) := by decide +kernel
theorem gc1_9_d16 : decode jdk_33_method_12_code 16 = .ok (.ifCond .ne 6, 3) := by decide +kernel
theorem gc1_9_d19 : decode jdk_33_method_12_code 19 = .ok (.iload_n 0, 1) := by decide +kernel
theorem gc1_9_d20 : decode jdk_33_method_12_code 20 = .ok (.ineg, 1) := by decide +kernel
theorem gc1_9_d21 : decode jdk_33_method_12_code 21 = .ok (.istore_n 0, 1) := by decide +kernel
theorem gc1_9_d22 : decode jdk_33_method_12_code 22 = .ok (.iload_n 0, 1) := by decide +kernel
theorem gc1_9_d23 : decode jdk_33_method_12_code 23 = .ok (.bipush (-100), 2) := by decide +kernel
theorem gc1_9_d25 : decode jdk_33_method_12_code 25 = .ok (.if_icmp .gt 47, 3) := by decide +kernel
theorem gc1_9_d72 : decode jdk_33_method_12_code 72 = .ok (.aload_n 2, 1) := by decide +kernel
theorem gc1_9_d73 : decode jdk_33_method_12_code 73 = .ok (.iinc 5 (-1), 3) := by decide +kernel
theorem gc1_9_d76 : decode jdk_33_method_12_code 76 = .ok (.iload 5, 2) := by decide +kernel
theorem gc1_9_d78 : decode jdk_33_method_12_code 78 = .ok (.getstatic 83, 3) := by decide +kernel
theorem gc1_9_d81 : decode jdk_33_method_12_code 81 = .ok (.iload_n 0, 1) := by decide +kernel
theorem gc1_9_d82 : decode jdk_33_method_12_code 82 = .ok (.ineg, 1) := by decide +kernel
theorem gc1_9_d83 : decode jdk_33_method_12_code 83 = .ok (.baload, 1) := by decide +kernel
theorem gc1_9_d84 : decode jdk_33_method_12_code 84 = .ok (.bastore, 1) := by decide +kernel
theorem gc1_9_d85 : decode jdk_33_method_12_code 85 = .ok (.iload_n 0, 1) := by decide +kernel
theorem gc1_9_d86 : decode jdk_33_method_12_code 86 = .ok (.bipush (-9), 2) := by decide +kernel
theorem gc1_9_d88 : decode jdk_33_method_12_code 88 = .ok (.if_icmp .ge 16, 3) := by decide +kernel
theorem gc1_9_d104 : decode jdk_33_method_12_code 104 = .ok (.iload 6, 2) := by decide +kernel
theorem gc1_9_d106 : decode jdk_33_method_12_code 106 = .ok (.ifCond .eq 12, 3) := by decide +kernel
theorem gc1_9_d118 : decode jdk_33_method_12_code 118 = .ok (.iload 5, 2) := by decide +kernel
theorem gc1_9_d120 : decode jdk_33_method_12_code 120 = .ok (.ireturn, 1) := by decide +kernel
theorem gc1_9_pn : plainName "java/lang/Integer" = true := by first | (simp [plainName, overriddenIn]; done) | decide +kernel
theorem gc1_9_ef (m : MethodId) (x0 : Int32) (x1 : Int32) (x2 : Addr) : entryFrame m #[(.int x0), (.int x1), (.ref x2)] 7 = mkF m 0 #[.val (.int x0), .val (.int x1), .val (.ref x2), .unset, .unset, .unset, .unset] [] := by first | (simp [entryFrame, mkF, argsToLocals, Value.category]; done) | rfl
set_option maxRecDepth 65536 in
set_option maxHeartbeats 40000000 in
theorem rm_gc1_9 (l : Launch) (Z : State) (a0 : Array Value) (hw : ∀ d ∈ tables_1, d.before a0 Z = true) (ws : List Jvm.Cond) (t1 : Addr) (k1 : ClassId) (x0 : Int32) (x1 : Int32) (x2 : Int32) (x3 : Int32) (x4 : Int32) (x5 : Int32) (x6 : Int32) (x7 : Int32) (x8 : Int32) (x9 : Int32) (wO : Addr) (wT : Addr) (kO : ClassId) (kT : ClassId) (h0 : Heap) (n0 : Nat) (Z0 : n0 ≤ h0.size) (OL : Old Z n0 h0) (V1 : Arv Z h0 t1 k1 .byte (10 : Int32) [.int x0, .int x1, .int x2, .int x3, .int x4, .int x5, .int x6, .int x7, .int x8, .int x9] (.int 0)) (g1 : n0 ≤ t1) (SO1 : Sta Z Z.heap "java/lang/Integer" "DigitOnes" "[B" (.ref wO)) (SO2 : Sta Z Z.heap "java/lang/Integer" "DigitTens" "[B" (.ref wT)) (AO1 : Arv Z Z.heap wO kO .byte (100 : Int32) own_ones (.int 0)) (AO2 : Arv Z Z.heap wT kT .byte (100 : Int32) own_tens (.int 0)) :
    MetFree l (⟨"java/lang/Integer", "getChars", "(II[B)I"⟩ : MethodName) (head1 (Jvm.Cond.code (⟨"java/lang/Integer", "getChars", "(II[B)I"⟩ : MethodName) jdk_33_method_12_code 7 (some .int) :: ws) ({ frames := 0, cells := 0, slots := 0, locals := 0 } : Room)) (fun a U => a = #[(.int (1 : Int32)), (.int (10 : Int32)), (.ref t1)] ∧ Z.Warmed39 U.vm ∧ U.heap = h0) (fun _ _ _ _ _ => True) (fun _ U o U' => OwnEnd U (fun v h L => v = some (.int (9 : Int32)) ∧ Fr n0 L ∧ Keep h0 h [t1] ∧ Arv Z h t1 k1 .byte (10 : Int32) [.int x0, .int x1, .int x2, .int x3, .int x4, .int x5, .int x6, .int x7, .int x8, .int 49] (.int 0)) ({ frames := 0, cells := 0, slots := 0, locals := 0 } : Room).cells ({ frames := 0, cells := 0, slots := 0, locals := 0 } : Room).slots o U') := by
  refine MetFree.of_bodySF (plainFor_of_name gc1_9_pn) hisR ?_
  intro p e s m args below meth c s₁ Bd hml0 hP hK
  obtain ⟨rfl, hZ, hh⟩ := hP
  have hx := Bd.exec
  have hby := Bd.bytes
  have hml : c.maxLocals = 7 := hml0
  have hown : s.vm.findClass "java/lang/Integer" = some m.cls := findClass_of_methodNamed Bd.named
  have hnm := (name_of_methodNamed Bd.named Bd.method).1
  have X0 : Stand p l e ({ frames := 0, cells := 0, slots := 0, locals := 0 } : Room) s m #[(.int (1 : Int32)), (.int (10 : Int32)), (.ref t1)] below meth c s₁ [] 0 0 := Stand.of_body Bd
  have e0 : s₁.heap = h0 := by rw [← hh, Bd.state]; rfl
  have N0 := Fr.nil n0
  have KP0 := Keep.refl h0 [t1]
  refine own_go (Q := (OwnEnd s (fun v h L => v = some (.int (9 : Int32)) ∧ Fr n0 L ∧ Keep h0 h [t1] ∧ Arv Z h t1 k1 .byte (10 : Int32) [.int x0, .int x1, .int x2, .int x3, .int x4, .int x5, .int x6, .int x7, .int x8, .int 49] (.int 0)) ({ frames := 0, cells := 0, slots := 0, locals := 0 } : Room).cells ({ frames := 0, cells := 0, slots := 0, locals := 0 } : Room).slots)) ?_
  refine own_back (fun t k => castTop (gc1_9_ef m (1 : Int32) (10 : Int32) t1) k) ?_
  show OwnGo p e below (s₁.setTop (mkF m 0 #[.val (.int (1 : Int32)), .val (.int (10 : Int32)), .val (.ref t1), .unset, .unset, .unset, .unset] [])) _
  refine own_back (fun t k => XS.iloadN X0.here hx rfl (hb hby gc1_9_d0) rfl k) ?_
  show OwnGo p e below (s₁.setTop (mkF m 1 #[.val (.int (1 : Int32)), .val (.int (10 : Int32)), .val (.ref t1), .unset, .unset, .unset, .unset] [(.int (10 : Int32))])) _
  refine own_back (fun t k => XS.istore X0.here hx rfl (hb hby gc1_9_d1) rfl (l' := #[.val (.int (1 : Int32)), .val (.int (10 : Int32)), .val (.ref t1), .unset, .unset, .val (.int (10 : Int32)), .unset]) rfl k) ?_
  show OwnGo p e below (s₁.setTop (mkF m 3 #[.val (.int (1 : Int32)), .val (.int (10 : Int32)), .val (.ref t1), .unset, .unset, .val (.int (10 : Int32)), .unset] [])) _
  refine own_back (fun t k => XS.iloadN X0.here hx rfl (hb hby gc1_9_d3) rfl k) ?_
  show OwnGo p e below (s₁.setTop (mkF m 4 #[.val (.int (1 : Int32)), .val (.int (10 : Int32)), .val (.ref t1), .unset, .unset, .val (.int (10 : Int32)), .unset] [(.int (1 : Int32))])) _
  refine own_back (fun t k => XS.ifYes X0.here hx rfl (pc0 := 4) (pc' := 11) rfl (hb hby gc1_9_d4) rfl (Jvm.Free.XT.i0_ge_t (by decide)) (by decide) (by decide) k) ?_
  show OwnGo p e below (s₁.setTop (mkF m 11 #[.val (.int (1 : Int32)), .val (.int (10 : Int32)), .val (.ref t1), .unset, .unset, .val (.int (10 : Int32)), .unset] [])) _
  refine own_back (fun t k => XS.iconst X0.here hx rfl (hb hby gc1_9_d11) k) ?_
  show OwnGo p e below (s₁.setTop (mkF m 12 #[.val (.int (1 : Int32)), .val (.int (10 : Int32)), .val (.ref t1), .unset, .unset, .val (.int (10 : Int32)), .unset] [(.int (0 : Int32))])) _
  refine own_back (fun t k => XS.istore X0.here hx rfl (hb hby gc1_9_d12) rfl (l' := #[.val (.int (1 : Int32)), .val (.int (10 : Int32)), .val (.ref t1), .unset, .unset, .val (.int (10 : Int32)), .val (.int (0 : Int32))]) rfl k) ?_
  show OwnGo p e below (s₁.setTop (mkF m 14 #[.val (.int (1 : Int32)), .val (.int (10 : Int32)), .val (.ref t1), .unset, .unset, .val (.int (10 : Int32)), .val (.int (0 : Int32))] [])) _
  refine own_back (fun t k => XS.iload X0.here hx rfl (hb hby gc1_9_d14) rfl k) ?_
  show OwnGo p e below (s₁.setTop (mkF m 16 #[.val (.int (1 : Int32)), .val (.int (10 : Int32)), .val (.ref t1), .unset, .unset, .val (.int (10 : Int32)), .val (.int (0 : Int32))] [(.int (0 : Int32))])) _
  refine own_back (fun t k => XS.ifNo X0.here hx rfl (hb hby gc1_9_d16) rfl (Jvm.Free.XT.i0_ne_f (by decide)) k) ?_
  show OwnGo p e below (s₁.setTop (mkF m 19 #[.val (.int (1 : Int32)), .val (.int (10 : Int32)), .val (.ref t1), .unset, .unset, .val (.int (10 : Int32)), .val (.int (0 : Int32))] [])) _
  refine own_back (fun t k => XS.iloadN X0.here hx rfl (hb hby gc1_9_d19) rfl k) ?_
  show OwnGo p e below (s₁.setTop (mkF m 20 #[.val (.int (1 : Int32)), .val (.int (10 : Int32)), .val (.ref t1), .unset, .unset, .val (.int (10 : Int32)), .val (.int (0 : Int32))] [(.int (1 : Int32))])) _
  refine own_back (fun t k => XS.ineg X0.here hx rfl (hb hby gc1_9_d20) rfl k) ?_
  show OwnGo p e below (s₁.setTop (mkF m 21 #[.val (.int (1 : Int32)), .val (.int (10 : Int32)), .val (.ref t1), .unset, .unset, .val (.int (10 : Int32)), .val (.int (0 : Int32))] [(.int (-(1 : Int32)))])) _
  rw [show (-(1 : Int32)) = (-1 : Int32) from by decide]
  show OwnGo p e below (s₁.setTop (mkF m 21 #[.val (.int (1 : Int32)), .val (.int (10 : Int32)), .val (.ref t1), .unset, .unset, .val (.int (10 : Int32)), .val (.int (0 : Int32))] [(.int (-1 : Int32))])) _
  refine own_back (fun t k => XS.istoreN X0.here hx rfl (hb hby gc1_9_d21) rfl (l' := #[.val (.int (-1 : Int32)), .val (.int (10 : Int32)), .val (.ref t1), .unset, .unset, .val (.int (10 : Int32)), .val (.int (0 : Int32))]) rfl k) ?_
  show OwnGo p e below (s₁.setTop (mkF m 22 #[.val (.int (-1 : Int32)), .val (.int (10 : Int32)), .val (.ref t1), .unset, .unset, .val (.int (10 : Int32)), .val (.int (0 : Int32))] [])) _
  refine own_back (fun t k => XS.iloadN X0.here hx rfl (hb hby gc1_9_d22) rfl k) ?_
  show OwnGo p e below (s₁.setTop (mkF m 23 #[.val (.int (-1 : Int32)), .val (.int (10 : Int32)), .val (.ref t1), .unset, .unset, .val (.int (10 : Int32)), .val (.int (0 : Int32))] [(.int (-1 : Int32))])) _
  refine own_back (fun t k => XS.bipush X0.here hx rfl (hb hby gc1_9_d23) k) ?_
  show OwnGo p e below (s₁.setTop (mkF m 25 #[.val (.int (-1 : Int32)), .val (.int (10 : Int32)), .val (.ref t1), .unset, .unset, .val (.int (10 : Int32)), .val (.int (0 : Int32))] [(.int (-100 : Int32)), (.int (-1 : Int32))])) _
  refine own_back (fun t k => XS.icmpYes X0.here hx rfl (pc0 := 25) (pc' := 72) rfl (hb hby gc1_9_d25) rfl (Jvm.Free.XT.ii_gt_t (by decide)) (by decide) (by decide) k) ?_
  show OwnGo p e below (s₁.setTop (mkF m 72 #[.val (.int (-1 : Int32)), .val (.int (10 : Int32)), .val (.ref t1), .unset, .unset, .val (.int (10 : Int32)), .val (.int (0 : Int32))] [])) _
  refine own_back (fun t k => XS.aloadN X0.here hx rfl (hb hby gc1_9_d72) rfl rfl k) ?_
  show OwnGo p e below (s₁.setTop (mkF m 73 #[.val (.int (-1 : Int32)), .val (.int (10 : Int32)), .val (.ref t1), .unset, .unset, .val (.int (10 : Int32)), .val (.int (0 : Int32))] [(.ref t1)])) _
  refine own_back (fun t k => XS.iinc X0.here hx rfl (hb hby gc1_9_d73) rfl (l' := #[.val (.int (-1 : Int32)), .val (.int (10 : Int32)), .val (.ref t1), .unset, .unset, .val (.int (9 : Int32)), .val (.int (0 : Int32))]) rfl k) ?_
  show OwnGo p e below (s₁.setTop (mkF m 76 #[.val (.int (-1 : Int32)), .val (.int (10 : Int32)), .val (.ref t1), .unset, .unset, .val (.int (9 : Int32)), .val (.int (0 : Int32))] [(.ref t1)])) _
  refine own_back (fun t k => XS.iload X0.here hx rfl (hb hby gc1_9_d76) rfl k) ?_
  show OwnGo p e below (s₁.setTop (mkF m 78 #[.val (.int (-1 : Int32)), .val (.int (10 : Int32)), .val (.ref t1), .unset, .unset, .val (.int (9 : Int32)), .val (.int (0 : Int32))] [(.int (9 : Int32)), (.ref t1)])) _
  obtain ⟨T372, X372, e372, st372⟩ := getS2 X0 hx hZ hown (host := "") (Or.inl (hw _ (List.mem_of_getElem? (i := 233) rfl))) Via.refl e0 (SO1.ext OL.2) (g := (mkF m 78 #[.val (.int (-1 : Int32)), .val (.int (10 : Int32)), .val (.ref t1), .unset, .unset, .val (.int (9 : Int32)), .val (.int (0 : Int32))] [(.int (9 : Int32)), (.ref t1)])) rfl (hb hby gc1_9_d78)
  refine own_back st372 ?_
  show OwnGo p e below (T372.setTop (mkF m 81 #[.val (.int (-1 : Int32)), .val (.int (10 : Int32)), .val (.ref t1), .unset, .unset, .val (.int (9 : Int32)), .val (.int (0 : Int32))] [(.ref wO), (.int (9 : Int32)), (.ref t1)])) _
  refine own_back (fun t k => XS.iloadN X372.here hx rfl (hb hby gc1_9_d81) rfl k) ?_
  show OwnGo p e below (T372.setTop (mkF m 82 #[.val (.int (-1 : Int32)), .val (.int (10 : Int32)), .val (.ref t1), .unset, .unset, .val (.int (9 : Int32)), .val (.int (0 : Int32))] [(.int (-1 : Int32)), (.ref wO), (.int (9 : Int32)), (.ref t1)])) _
  refine own_back (fun t k => XS.ineg X372.here hx rfl (hb hby gc1_9_d82) rfl k) ?_
  show OwnGo p e below (T372.setTop (mkF m 83 #[.val (.int (-1 : Int32)), .val (.int (10 : Int32)), .val (.ref t1), .unset, .unset, .val (.int (9 : Int32)), .val (.int (0 : Int32))] [(.int (-(-1 : Int32))), (.ref wO), (.int (9 : Int32)), (.ref t1)])) _
  rw [show (-(-1 : Int32)) = (1 : Int32) from by decide]
  show OwnGo p e below (T372.setTop (mkF m 83 #[.val (.int (-1 : Int32)), .val (.int (10 : Int32)), .val (.ref t1), .unset, .unset, .val (.int (9 : Int32)), .val (.int (0 : Int32))] [(.int (1 : Int32)), (.ref wO), (.int (9 : Int32)), (.ref t1)])) _
  obtain ⟨c373, A373, q373, S373, M373, H373, U373⟩ := id (AO1.ext OL.2)
  have ib374 : ¬ ((1 : Int32) < 0 ∨ c373.slots.size ≤ ((1 : Int32)).toNatClampNeg) := (inb_of S373 ⟨by decide, by decide⟩)
  refine own_back (fun t k => X372.baloadBytes hx (j := (1 : Int32)) (v := (.int (49 : Int32))) (own_hat e372 A373.1) (State.isArrayOf_alike hZ.alike A373.2.1) A373.2.2 ib374 (H373.at ib374 (by decide)) (g := (mkF m 83 #[.val (.int (-1 : Int32)), .val (.int (10 : Int32)), .val (.ref t1), .unset, .unset, .val (.int (9 : Int32)), .val (.int (0 : Int32))] [(.int (1 : Int32)), (.ref wO), (.int (9 : Int32)), (.ref t1)])) rfl rfl (hb hby gc1_9_d83) t k) ?_
  show OwnGo p e below (T372.setTop (mkF m 84 #[.val (.int (-1 : Int32)), .val (.int (10 : Int32)), .val (.ref t1), .unset, .unset, .val (.int (9 : Int32)), .val (.int (0 : Int32))] [(.int (49 : Int32)), (.int (9 : Int32)), (.ref t1)])) _
  obtain ⟨c375, A375, q375, S375, M375, H375, U375⟩ := id V1
  obtain ⟨T376, h376, X376, e376, W376, st376⟩ := stB X372 hx hZ e372 A375 (j := (9 : Int32)) (inb_of S375 ⟨by decide, by decide⟩) (g := (mkF m 84 #[.val (.int (-1 : Int32)), .val (.int (10 : Int32)), .val (.ref t1), .unset, .unset, .val (.int (9 : Int32)), .val (.int (0 : Int32))] [(.int (49 : Int32)), (.int (9 : Int32)), (.ref t1)])) rfl rfl (hb hby gc1_9_d84)
  have O377 := OL.wr W376 g1
  have KP378 := KP0.wr W376 (Or.inl (List.mem_of_getElem? (i := 0) rfl))
  have Zs379 := Nat.le_trans Z0 (Keep.of_wr W376).1
  have f380 := (AO1.ext OL.2).other W376 (Old.ne OL AO1.lt g1)
  have f381 := (AO2.ext OL.2).other W376 (Old.ne OL AO2.lt g1)
  have V382 : Arv Z h376 t1 k1 .byte (10 : Int32) [(.int x0), (.int x1), (.int x2), (.int x3), (.int x4), (.int x5), (.int x6), (.int x7), (.int x8), (.int (49 : Int32).toInt8.toInt32)] (.int 0) := Arv.set A375 q375 S375 M375 H375 U375 (fits_nar_byte _) W376 9 rfl (Nat.le_of_ble_eq_true rfl)
  have N383 := Fr.snoc X376 N0 g1
  refine own_back st376 ?_
  show OwnGo p e below (T376.setTop (mkF m 85 #[.val (.int (-1 : Int32)), .val (.int (10 : Int32)), .val (.ref t1), .unset, .unset, .val (.int (9 : Int32)), .val (.int (0 : Int32))] [])) _
  refine own_back (fun t k => XS.iloadN X376.here hx rfl (hb hby gc1_9_d85) rfl k) ?_
  show OwnGo p e below (T376.setTop (mkF m 86 #[.val (.int (-1 : Int32)), .val (.int (10 : Int32)), .val (.ref t1), .unset, .unset, .val (.int (9 : Int32)), .val (.int (0 : Int32))] [(.int (-1 : Int32))])) _
  refine own_back (fun t k => XS.bipush X376.here hx rfl (hb hby gc1_9_d86) k) ?_
  show OwnGo p e below (T376.setTop (mkF m 88 #[.val (.int (-1 : Int32)), .val (.int (10 : Int32)), .val (.ref t1), .unset, .unset, .val (.int (9 : Int32)), .val (.int (0 : Int32))] [(.int (-9 : Int32)), (.int (-1 : Int32))])) _
  refine own_back (fun t k => XS.icmpYes X376.here hx rfl (pc0 := 88) (pc' := 104) rfl (hb hby gc1_9_d88) rfl (Jvm.Free.XT.ii_ge_t (by decide)) (by decide) (by decide) k) ?_
  show OwnGo p e below (T376.setTop (mkF m 104 #[.val (.int (-1 : Int32)), .val (.int (10 : Int32)), .val (.ref t1), .unset, .unset, .val (.int (9 : Int32)), .val (.int (0 : Int32))] [])) _
  refine own_back (fun t k => XS.iload X376.here hx rfl (hb hby gc1_9_d104) rfl k) ?_
  show OwnGo p e below (T376.setTop (mkF m 106 #[.val (.int (-1 : Int32)), .val (.int (10 : Int32)), .val (.ref t1), .unset, .unset, .val (.int (9 : Int32)), .val (.int (0 : Int32))] [(.int (0 : Int32))])) _
  refine own_back (fun t k => XS.ifYes X376.here hx rfl (pc0 := 106) (pc' := 118) rfl (hb hby gc1_9_d106) rfl (Jvm.Free.XT.i0_eq_t (by decide)) (by decide) (by decide) k) ?_
  show OwnGo p e below (T376.setTop (mkF m 118 #[.val (.int (-1 : Int32)), .val (.int (10 : Int32)), .val (.ref t1), .unset, .unset, .val (.int (9 : Int32)), .val (.int (0 : Int32))] [])) _
  refine own_back (fun t k => XS.iload X376.here hx rfl (hb hby gc1_9_d118) rfl k) ?_
  show OwnGo p e below (T376.setTop (mkF m 120 #[.val (.int (-1 : Int32)), .val (.int (10 : Int32)), .val (.ref t1), .unset, .unset, .val (.int (9 : Int32)), .val (.int (0 : Int32))] [(.int (9 : Int32))])) _
  refine own_retI X376 hx Bd.notSynchronized Bd.returns (hb hby gc1_9_d120) e376 (Nat.le_of_ble_eq_true rfl) (Nat.le_of_ble_eq_true rfl) ?_
  exact ⟨rfl, N383, KP378, V382⟩
theorem aai1970_0_d0 : decode jdk_68_method_32_code 0 = .ok (.aload_n 0, 1) := by decide +kernel
theorem aai1970_0_d1 : decode jdk_68_method_32_code 1 = .ok (.getfield 79, 3) := by decide +kernel
theorem aai1970_0_d4 : decode jdk_68_method_32_code 4 = .ok (.istore_n 2, 1) := by decide +kernel
theorem aai1970_0_d5 : decode jdk_68_method_32_code 5 = .ok (.iload_n 2, 1) := by decide +kernel
theorem aai1970_0_d6 : decode jdk_68_method_32_code 6 = .ok (.iload_n 1, 1) := by decide +kernel
theorem aai1970_0_d7 : decode jdk_68_method_32_code 7 = .ok (.invokestatic 245, 3) := by decide +kernel
theorem aai1970_0_d10 : decode jdk_68_method_32_code 10 = .ok (.iadd, 1) := by decide +kernel
theorem aai1970_0_d11 : decode jdk_68_method_32_code 11 = .ok (.istore_n 3, 1) := by decide +kernel
theorem aai1970_0_d12 : decode jdk_68_method_32_code 12 = .ok (.aload_n 0, 1) := by decide +kernel
theorem aai1970_0_d13 : decode jdk_68_method_32_code 13 = .ok (.iload_n 3, 1) := by decide +kernel
theorem aai1970_0_d14 : decode jdk_68_method_32_code 14 = .ok (.invokevirtual 100, 3) := by decide +kernel
theorem aai1970_0_d17 : decode jdk_68_method_32_code 17 = .ok (.aload_n 0, 1) := by decide +kernel
theorem aai1970_0_d18 : decode jdk_68_method_32_code 18 = .ok (.invokevirtual 83, 3) := by decide +kernel
theorem aai1970_0_d21 : decode jdk_68_method_32_code 21 = .ok (.ifCond .eq 16, 3) := by decide +kernel
theorem aai1970_0_d24 : decode jdk_68_method_32_code 24 = .ok (.iload_n 1, 1) := by decide +kernel
theorem aai1970_0_d25 : decode jdk_68_method_32_code 25 = .ok (.iload_n 3, 1) := by decide +kernel
theorem aai1970_0_d26 : decode jdk_68_method_32_code 26 = .ok (.aload_n 0, 1) := by decide +kernel
theorem aai1970_0_d27 : decode jdk_68_method_32_code 27 = .ok (.getfield 15, 3) := by decide +kernel
theorem aai1970_0_d30 : decode jdk_68_method_32_code 30 = .ok (.invokestatic 248, 3) := by decide +kernel
theorem aai1970_0_d33 : decode jdk_68_method_32_code 33 = .ok (.pop, 1) := by decide +kernel
theorem aai1970_0_d34 : decode jdk_68_method_32_code 34 = .ok (.goto 14, 3) := by decide +kernel
theorem aai1970_0_d48 : decode jdk_68_method_32_code 48 = .ok (.aload_n 0, 1) := by decide +kernel
theorem aai1970_0_d49 : decode jdk_68_method_32_code 49 = .ok (.iload_n 3, 1) := by decide +kernel
theorem aai1970_0_d50 : decode jdk_68_method_32_code 50 = .ok (.putfield 79, 3) := by decide +kernel
theorem aai1970_0_d53 : decode jdk_68_method_32_code 53 = .ok (.aload_n 0, 1) := by decide +kernel
theorem aai1970_0_d54 : decode jdk_68_method_32_code 54 = .ok (.areturn, 1) := by decide +kernel
theorem aai1970_0_pn : plainName "java/lang/AbstractStringBuilder" = true := by first | (simp [plainName, overriddenIn]; done) | decide +kernel
theorem aai1970_0_pd0 : parseMethodDescriptor "(I)I" = some ⟨[.int], some .int⟩ := by decide +kernel
theorem aai1970_0_pd1 : parseMethodDescriptor "(I)V" = some ⟨[.int], none⟩ := by decide +kernel
theorem aai1970_0_pd2 : parseMethodDescriptor "()Z" = some ⟨[], some .boolean⟩ := by decide +kernel
theorem aai1970_0_pd3 : parseMethodDescriptor "(II[B)I" = some ⟨[.int, .int, (.array .byte)], some .int⟩ := by decide +kernel
theorem aai1970_0_ef (m : MethodId) (x0 : Addr) (x1 : Int32) : entryFrame m #[(.ref x0), (.int x1)] 4 = mkF m 0 #[.val (.ref x0), .val (.int x1), .unset, .unset] [] := by first | (simp [entryFrame, mkF, argsToLocals, Value.category]; done) | rfl
set_option maxRecDepth 65536 in
set_option maxHeartbeats 40000000 in
theorem rm_aai1970_0 (l : Launch) (Z : State) (a0 : Array Value) (hw : ∀ d ∈ tables_1, d.before a0 Z = true) (ws : List Jvm.Cond) (a1 : Addr) (t1 : Addr) (x0 : Int32) (x1 : Int32) (x2 : Int32) (x3 : Int32) (x4 : Int32) (x5 : Int32) (x6 : Int32) (x7 : Int32) (x8 : Int32) (x9 : Int32) (wO : Addr) (wT : Addr) (kO : ClassId) (kT : ClassId) (cz : Int32) (h0 : Heap) (n0 : Nat) (Z0 : n0 ≤ h0.size) (OL : Old Z n0 h0) (B1 : OwnBd Z h0 a1 t1 [x0, x1, x2, x3, x4, x5, x6, x7, x8, x9] 0) (g0 : n0 ≤ a1) (g1 : n0 ≤ t1) (SO1 : Sta Z Z.heap "java/lang/Integer" "DigitOnes" "[B" (.ref wO)) (SO2 : Sta Z Z.heap "java/lang/Integer" "DigitTens" "[B" (.ref wT)) (AO1 : Arv Z Z.heap wO kO .byte (100 : Int32) own_ones (.int 0)) (AO2 : Arv Z Z.heap wT kT .byte (100 : Int32) own_tens (.int 0)) (SC : Sta Z Z.heap "java/lang/String" "COMPACT_STRINGS" "Z" (.int cz)) (hcz : ¬ cz = 0) :
    MetFree l (⟨"java/lang/AbstractStringBuilder", "append", "(I)Ljava/lang/AbstractStringBuilder;"⟩ : MethodName) (head1 (Jvm.Cond.code (⟨"java/lang/AbstractStringBuilder", "append", "(I)Ljava/lang/AbstractStringBuilder;"⟩ : MethodName) jdk_68_method_32_code 4 (some (.object "java/lang/AbstractStringBuilder")) :: ws) ({ frames := 1, cells := 0, slots := 0, locals := 24 } : Room)) (fun a U => a = #[(.ref a1), (.int (1970 : Int32))] ∧ Z.Warmed39 U.vm ∧ U.heap = h0) (fun _ _ _ _ _ => True) (fun _ U o U' => OwnEnd U (fun v h L => v = some (.ref a1) ∧ Fr n0 L ∧ Keep h0 h [a1, t1] ∧ OwnBd Z h a1 t1 [49, 57, 55, 48, x4, x5, x6, x7, x8, x9] 4) ({ frames := 1, cells := 0, slots := 0, locals := 24 } : Room).cells ({ frames := 1, cells := 0, slots := 0, locals := 24 } : Room).slots o U') := by
  refine MetFree.of_bodySF (plainFor_of_name aai1970_0_pn) hisR ?_
  intro p e s m args below meth c s₁ Bd hml0 hP hK
  obtain ⟨rfl, hZ, hh⟩ := hP
  have hx := Bd.exec
  have hby := Bd.bytes
  have hml : c.maxLocals = 4 := hml0
  have hown : s.vm.findClass "java/lang/AbstractStringBuilder" = some m.cls := findClass_of_methodNamed Bd.named
  have hnm := (name_of_methodNamed Bd.named Bd.method).1
  have X0 : Stand p l e ({ frames := 1, cells := 0, slots := 0, locals := 24 } : Room) s m #[(.ref a1), (.int (1970 : Int32))] below meth c s₁ [] 0 0 := Stand.of_body Bd
  have e0 : s₁.heap = h0 := by rw [← hh, Bd.state]; rfl
  have N0 := Fr.nil n0
  have KP0 := Keep.refl h0 [a1, t1]
  refine own_go (Q := (OwnEnd s (fun v h L => v = some (.ref a1) ∧ Fr n0 L ∧ Keep h0 h [a1, t1] ∧ OwnBd Z h a1 t1 [49, 57, 55, 48, x4, x5, x6, x7, x8, x9] 4) ({ frames := 1, cells := 0, slots := 0, locals := 24 } : Room).cells ({ frames := 1, cells := 0, slots := 0, locals := 24 } : Room).slots)) ?_
  refine own_back (fun t k => castTop (aai1970_0_ef m a1 (1970 : Int32)) k) ?_
  show OwnGo p e below (s₁.setTop (mkF m 0 #[.val (.ref a1), .val (.int (1970 : Int32)), .unset, .unset] [])) _
  obtain ⟨k1, E1, C1, F1, N1, V1, X1, m1, m2⟩ := id B1
  have ne1 := own_exaarv V1 E1 (hw _ (List.mem_of_getElem? (i := 62) rfl))
  refine own_back (fun t k => XS.aloadN X0.here hx rfl (hb hby aai1970_0_d0) rfl rfl k) ?_
  show OwnGo p e below (s₁.setTop (mkF m 1 #[.val (.ref a1), .val (.int (1970 : Int32)), .unset, .unset] [(.ref a1)])) _
  obtain ⟨T384, X384, e384, st384⟩ := getF X0 hx hZ hown (host := "") (Or.inl (hw _ (List.mem_of_getElem? (i := 102) rfl))) Via.refl e0 (show Fld Z h0 a1 "java/lang/AbstractStringBuilder" "count" "I" (.int (0 : Int32)) from N1) (g := (mkF m 1 #[.val (.ref a1), .val (.int (1970 : Int32)), .unset, .unset] [(.ref a1)])) rfl rfl (hb hby aai1970_0_d1)
  refine own_back st384 ?_
  show OwnGo p e below (T384.setTop (mkF m 4 #[.val (.ref a1), .val (.int (1970 : Int32)), .unset, .unset] [(.int (0 : Int32))])) _
  refine own_back (fun t k => XS.istoreN X384.here hx rfl (hb hby aai1970_0_d4) rfl (l' := #[.val (.ref a1), .val (.int (1970 : Int32)), .val (.int (0 : Int32)), .unset]) rfl k) ?_
  show OwnGo p e below (T384.setTop (mkF m 5 #[.val (.ref a1), .val (.int (1970 : Int32)), .val (.int (0 : Int32)), .unset] [])) _
  refine own_back (fun t k => XS.iloadN X384.here hx rfl (hb hby aai1970_0_d5) rfl k) ?_
  show OwnGo p e below (T384.setTop (mkF m 6 #[.val (.ref a1), .val (.int (1970 : Int32)), .val (.int (0 : Int32)), .unset] [(.int (0 : Int32))])) _
  refine own_back (fun t k => XS.iloadN X384.here hx rfl (hb hby aai1970_0_d6) rfl k) ?_
  show OwnGo p e below (T384.setTop (mkF m 7 #[.val (.ref a1), .val (.int (1970 : Int32)), .val (.int (0 : Int32)), .unset] [(.int (1970 : Int32)), (.int (0 : Int32))])) _
  obtain ⟨_, _, ⟨T385, L385, k385, n385⟩, -, X385, ⟨Lc385, hQ385, l385, y385, z385⟩, st385⟩ := Jvm.LawKit.callS X384 hx (y := (⟨"java/lang/Integer", "stringSize", "(I)I"⟩ : MethodName)) hown (mvT hZ (hw _ (List.mem_of_getElem? (i := 221) rfl))) (mvT hZ (hw _ (List.mem_of_getElem? (i := 222) rfl))) (mvT hZ (hw _ (List.mem_of_getElem? (i := 223) rfl))) (mvT hZ (hw _ (List.mem_of_getElem? (i := 224) rfl))) (by decide) (own_backN (W := 1) (rm_ss1970 l Z a0 hw [] h0 n0 Z0) hZ (hw _ (List.mem_of_getElem? (i := 224) rfl)) (hw _ (List.mem_of_getElem? (i := 223) rfl)) (by decide) (by decide)) (g := (mkF m 7 #[.val (.ref a1), .val (.int (1970 : Int32)), .val (.int (0 : Int32)), .unset] [(.int (1970 : Int32)), (.int (0 : Int32))])) rfl (by rw [hml]; rfl) (argsL := [(.int (1970 : Int32))]) (rest := [(.int (0 : Int32))]) (lenOf aai1970_0_pd0 rfl) rfl (by show 2 * 0 + _ ≤ _; exact Nat.le_of_eq rfl) (hb hby aai1970_0_d7) (fun _ _ => ⟨rfl, e384, Nat.le_of_ble_eq_true rfl, Nat.le_of_ble_eq_true rfl⟩)
  dsimp only [Pt.U, Pt.locs, Pt.cells, Pt.slots] at X385 l385 y385 z385 st385 hQ385
  subst l385 y385 z385
  obtain ⟨rfl, N385q, hh385⟩ := hQ385
  refine own_back st385 ?_
  have N385 := Fr.app N0 N385q
  show OwnGo p e below (T385.setTop (mkF m 10 #[.val (.ref a1), .val (.int (1970 : Int32)), .val (.int (0 : Int32)), .unset] [(.int (4 : Int32)), (.int (0 : Int32))])) _
  refine own_back (fun t k => XS.iadd X385.here hx rfl (hb hby aai1970_0_d10) rfl k) ?_
  show OwnGo p e below (T385.setTop (mkF m 11 #[.val (.ref a1), .val (.int (1970 : Int32)), .val (.int (0 : Int32)), .unset] [(.int ((0 : Int32) + (4 : Int32)))])) _
  rw [show ((0 : Int32) + (4 : Int32)) = (4 : Int32) from by decide]
  show OwnGo p e below (T385.setTop (mkF m 11 #[.val (.ref a1), .val (.int (1970 : Int32)), .val (.int (0 : Int32)), .unset] [(.int (4 : Int32))])) _
  refine own_back (fun t k => XS.istoreN X385.here hx rfl (hb hby aai1970_0_d11) rfl (l' := #[.val (.ref a1), .val (.int (1970 : Int32)), .val (.int (0 : Int32)), .val (.int (4 : Int32))]) rfl k) ?_
  show OwnGo p e below (T385.setTop (mkF m 12 #[.val (.ref a1), .val (.int (1970 : Int32)), .val (.int (0 : Int32)), .val (.int (4 : Int32))] [])) _
  refine own_back (fun t k => XS.aloadN X385.here hx rfl (hb hby aai1970_0_d12) rfl rfl k) ?_
  show OwnGo p e below (T385.setTop (mkF m 13 #[.val (.ref a1), .val (.int (1970 : Int32)), .val (.int (0 : Int32)), .val (.int (4 : Int32))] [(.ref a1)])) _
  refine own_back (fun t k => XS.iloadN X385.here hx rfl (hb hby aai1970_0_d13) rfl k) ?_
  show OwnGo p e below (T385.setTop (mkF m 14 #[.val (.ref a1), .val (.int (1970 : Int32)), .val (.int (0 : Int32)), .val (.int (4 : Int32))] [(.int (4 : Int32)), (.ref a1)])) _
  obtain ⟨cq386, kq386, q386a, q386b, q386c⟩ := isOf hZ hh385 E1
  obtain ⟨_, _, ⟨T386, L386, k386, n386⟩, -, X386, ⟨Lc386, hQ386, l386, y386, z386⟩, st386⟩ := X385.virtualBack hx (y := (⟨"java/lang/AbstractStringBuilder", "ensureCapacityInternal", "(I)V"⟩ : MethodName)) (z := (⟨"java/lang/AbstractStringBuilder", "ensureCapacityInternal", "(I)V"⟩ : MethodName)) hown (mvT hZ (hw _ (List.mem_of_getElem? (i := 104) rfl))) (mvT hZ (own_decl (hw _ (List.mem_of_getElem? (i := 105) rfl)) (hw _ (List.mem_of_getElem? (i := 108) rfl)))) (notFace_of_selects (args := #[]) (mvT hZ (hw _ (List.mem_of_getElem? (i := 107) rfl)))) (mvT hZ (hw _ (List.mem_of_getElem? (i := 107) rfl))) (mvT hZ (hw _ (List.mem_of_getElem? (i := 105) rfl))) (by decide) (own_backN (W := 0) (rm_eci l Z a0 hw [] a1 t1 [x0, x1, x2, x3, x4, x5, x6, x7, x8, x9] 0 4 h0 n0 Z0 B1 (Nat.le_of_ble_eq_true rfl)) hZ (hw _ (List.mem_of_getElem? (i := 108) rfl)) (hw _ (List.mem_of_getElem? (i := 71) rfl)) (by decide) (by decide)) q386a q386c (g := (mkF m 14 #[.val (.ref a1), .val (.int (1970 : Int32)), .val (.int (0 : Int32)), .val (.int (4 : Int32))] [(.int (4 : Int32)), (.ref a1)])) rfl (by rw [hml]; rfl) (Steps.refl _) (argsL := [(.int (4 : Int32))]) (rest := []) (lenOf aai1970_0_pd1 rfl) rfl (by show 2 * 0 + _ ≤ _; exact Nat.le_of_eq rfl) (hb hby aai1970_0_d14) (fun _ _ => ⟨rfl, hh385, Nat.le_of_ble_eq_true rfl, Nat.le_of_ble_eq_true rfl⟩)
  dsimp only [Pt.U, Pt.locs, Pt.cells, Pt.slots] at X386 l386 y386 z386 st386 hQ386
  subst l386 y386 z386
  obtain ⟨rfl, N386q, hh386⟩ := hQ386
  refine own_seq st386 ?_
  have N386 := Fr.app N385 N386q
  show OwnGo p e below (T386.setTop (mkF m 17 #[.val (.ref a1), .val (.int (1970 : Int32)), .val (.int (0 : Int32)), .val (.int (4 : Int32))] [])) _
  refine own_back (fun t k => XS.aloadN X386.here hx rfl (hb hby aai1970_0_d17) rfl rfl k) ?_
  show OwnGo p e below (T386.setTop (mkF m 18 #[.val (.ref a1), .val (.int (1970 : Int32)), .val (.int (0 : Int32)), .val (.int (4 : Int32))] [(.ref a1)])) _
  obtain ⟨cq387, kq387, q387a, q387b, q387c⟩ := isOf hZ hh386 E1
  obtain ⟨_, _, ⟨T387, L387, k387, n387⟩, -, X387, ⟨Lc387, hQ387, l387, y387, z387⟩, st387⟩ := X386.virtualBack hx (y := (⟨"java/lang/AbstractStringBuilder", "isLatin1", "()Z"⟩ : MethodName)) (z := (⟨"java/lang/AbstractStringBuilder", "isLatin1", "()Z"⟩ : MethodName)) hown (mvT hZ (hw _ (List.mem_of_getElem? (i := 225) rfl))) (mvT hZ (hw _ (List.mem_of_getElem? (i := 226) rfl))) (notFace_of_selects (args := #[]) (mvT hZ (hw _ (List.mem_of_getElem? (i := 228) rfl)))) (mvT hZ (hw _ (List.mem_of_getElem? (i := 228) rfl))) (mvT hZ (hw _ (List.mem_of_getElem? (i := 227) rfl))) (by decide) (own_backN (W := 0) (rm_bl1 l Z a0 hw [] a1 cz h0 n0 Z0 OL C1 SC hcz) hZ (hw _ (List.mem_of_getElem? (i := 229) rfl)) (hw _ (List.mem_of_getElem? (i := 71) rfl)) (by decide) (by decide)) q387a q387c (g := (mkF m 18 #[.val (.ref a1), .val (.int (1970 : Int32)), .val (.int (0 : Int32)), .val (.int (4 : Int32))] [(.ref a1)])) rfl (by rw [hml]; rfl) (Steps.refl _) (argsL := []) (rest := []) (lenOf aai1970_0_pd2 rfl) rfl (by show 2 * 0 + _ ≤ _; exact Nat.le_of_eq rfl) (hb hby aai1970_0_d18) (fun _ _ => ⟨rfl, hh386, Nat.le_of_ble_eq_true rfl, Nat.le_of_ble_eq_true rfl⟩)
  dsimp only [Pt.U, Pt.locs, Pt.cells, Pt.slots] at X387 l387 y387 z387 st387 hQ387
  subst l387 y387 z387
  obtain ⟨rfl, N387q, hh387⟩ := hQ387
  refine own_seq st387 ?_
  have N387 := Fr.app N386 N387q
  show OwnGo p e below (T387.setTop (mkF m 21 #[.val (.ref a1), .val (.int (1970 : Int32)), .val (.int (0 : Int32)), .val (.int (4 : Int32))] [(.int (1 : Int32))])) _
  refine own_back (fun t k => XS.ifNo X387.here hx rfl (hb hby aai1970_0_d21) rfl (Jvm.Free.XT.i0_eq_f (by decide)) k) ?_
  show OwnGo p e below (T387.setTop (mkF m 24 #[.val (.ref a1), .val (.int (1970 : Int32)), .val (.int (0 : Int32)), .val (.int (4 : Int32))] [])) _
  refine own_back (fun t k => XS.iloadN X387.here hx rfl (hb hby aai1970_0_d24) rfl k) ?_
  show OwnGo p e below (T387.setTop (mkF m 25 #[.val (.ref a1), .val (.int (1970 : Int32)), .val (.int (0 : Int32)), .val (.int (4 : Int32))] [(.int (1970 : Int32))])) _
  refine own_back (fun t k => XS.iloadN X387.here hx rfl (hb hby aai1970_0_d25) rfl k) ?_
  show OwnGo p e below (T387.setTop (mkF m 26 #[.val (.ref a1), .val (.int (1970 : Int32)), .val (.int (0 : Int32)), .val (.int (4 : Int32))] [(.int (4 : Int32)), (.int (1970 : Int32))])) _
  refine own_back (fun t k => XS.aloadN X387.here hx rfl (hb hby aai1970_0_d26) rfl rfl k) ?_
  show OwnGo p e below (T387.setTop (mkF m 27 #[.val (.ref a1), .val (.int (1970 : Int32)), .val (.int (0 : Int32)), .val (.int (4 : Int32))] [(.ref a1), (.int (4 : Int32)), (.int (1970 : Int32))])) _
  obtain ⟨T388, X388, e388, st388⟩ := getF X387 hx hZ hown (host := "") (Or.inl (hw _ (List.mem_of_getElem? (i := 75) rfl))) Via.refl hh387 F1 (g := (mkF m 27 #[.val (.ref a1), .val (.int (1970 : Int32)), .val (.int (0 : Int32)), .val (.int (4 : Int32))] [(.ref a1), (.int (4 : Int32)), (.int (1970 : Int32))])) rfl rfl (hb hby aai1970_0_d27)
  refine own_back st388 ?_
  show OwnGo p e below (T388.setTop (mkF m 30 #[.val (.ref a1), .val (.int (1970 : Int32)), .val (.int (0 : Int32)), .val (.int (4 : Int32))] [(.ref t1), (.int (4 : Int32)), (.int (1970 : Int32))])) _
  obtain ⟨_, _, ⟨T389, L389, k389, n389⟩, -, X389, ⟨Lc389, hQ389, l389, y389, z389⟩, st389⟩ := Jvm.LawKit.callS X388 hx (y := (⟨"java/lang/Integer", "getChars", "(II[B)I"⟩ : MethodName)) hown (mvT hZ (hw _ (List.mem_of_getElem? (i := 230) rfl))) (mvT hZ (hw _ (List.mem_of_getElem? (i := 231) rfl))) (mvT hZ (hw _ (List.mem_of_getElem? (i := 223) rfl))) (mvT hZ (hw _ (List.mem_of_getElem? (i := 232) rfl))) (by decide) (own_backN (W := 0) (rm_gc1970_0 l Z a0 hw [] t1 k1 x0 x1 x2 x3 x4 x5 x6 x7 x8 x9 wO wT kO kT h0 n0 Z0 OL V1 g1 SO1 SO2 AO1 AO2) hZ (hw _ (List.mem_of_getElem? (i := 232) rfl)) (hw _ (List.mem_of_getElem? (i := 223) rfl)) (by decide) (by decide)) (g := (mkF m 30 #[.val (.ref a1), .val (.int (1970 : Int32)), .val (.int (0 : Int32)), .val (.int (4 : Int32))] [(.ref t1), (.int (4 : Int32)), (.int (1970 : Int32))])) rfl (by rw [hml]; rfl) (argsL := [(.int (1970 : Int32)), (.int (4 : Int32)), (.ref t1)]) (rest := []) (lenOf aai1970_0_pd3 rfl) rfl (by show 2 * 0 + _ ≤ _; exact Nat.le_of_eq rfl) (hb hby aai1970_0_d30) (fun _ _ => ⟨rfl, e388, Nat.le_of_ble_eq_true rfl, Nat.le_of_ble_eq_true rfl⟩)
  dsimp only [Pt.U, Pt.locs, Pt.cells, Pt.slots] at X389 l389 y389 z389 st389 hQ389
  subst l389 y389 z389
  obtain ⟨rfl, N389q, K389, V389⟩ := hQ389
  refine own_back st389 ?_
  have N389 := Fr.app N387 N389q
  have O390 := OL.keep K389 (allS g1 all0)
  have KP391 := KP0.trans K389 (allS (Or.inl (List.mem_of_getElem? (i := 1) rfl)) all0)
  have Zs392 := Nat.le_trans Z0 K389.1
  have f393 := E1.keep K389
  have f394 := C1.keep K389 (ninS (Ne.symm ne1) nin0)
  have f395 := F1.keep K389 (ninS (Ne.symm ne1) nin0)
  have f396 := (show Fld Z h0 a1 "java/lang/AbstractStringBuilder" "count" "I" (.int (0 : Int32)) from N1).keep K389 (ninS (Ne.symm ne1) nin0)
  have f397 := X1.keep K389
  show OwnGo p e below (T389.setTop (mkF m 33 #[.val (.ref a1), .val (.int (1970 : Int32)), .val (.int (0 : Int32)), .val (.int (4 : Int32))] [(.int (0 : Int32))])) _
  refine own_back (fun t k => XS.pop X389.here hx rfl (hb hby aai1970_0_d33) rfl rfl k) ?_
  show OwnGo p e below (T389.setTop (mkF m 34 #[.val (.ref a1), .val (.int (1970 : Int32)), .val (.int (0 : Int32)), .val (.int (4 : Int32))] [])) _
  refine own_back (fun t k => XS.goto X389.here hx rfl (pc0 := 34) (pc' := 48) rfl (hb hby aai1970_0_d34) (by decide) (by decide) k) ?_
  show OwnGo p e below (T389.setTop (mkF m 48 #[.val (.ref a1), .val (.int (1970 : Int32)), .val (.int (0 : Int32)), .val (.int (4 : Int32))] [])) _
  refine own_back (fun t k => XS.aloadN X389.here hx rfl (hb hby aai1970_0_d48) rfl rfl k) ?_
  show OwnGo p e below (T389.setTop (mkF m 49 #[.val (.ref a1), .val (.int (1970 : Int32)), .val (.int (0 : Int32)), .val (.int (4 : Int32))] [(.ref a1)])) _
  refine own_back (fun t k => XS.iloadN X389.here hx rfl (hb hby aai1970_0_d49) rfl k) ?_
  show OwnGo p e below (T389.setTop (mkF m 50 #[.val (.ref a1), .val (.int (1970 : Int32)), .val (.int (0 : Int32)), .val (.int (4 : Int32))] [(.int (4 : Int32)), (.ref a1)])) _
  obtain ⟨T398, h398, X398, e398, W398, st398⟩ := putF X389 hx hZ hown (host := "") (Or.inl (hw _ (List.mem_of_getElem? (i := 102) rfl))) Via.refl rfl f396 f393 (Or.inl (hw _ (List.mem_of_getElem? (i := 103) rfl))) (hw _ (List.mem_of_getElem? (i := 62) rfl)) (ty := .int) (by decide) rfl rfl (g := (mkF m 50 #[.val (.ref a1), .val (.int (1970 : Int32)), .val (.int (0 : Int32)), .val (.int (4 : Int32))] [(.int (4 : Int32)), (.ref a1)])) rfl rfl (hb hby aai1970_0_d50)
  have O399 := O390.wr W398 g0
  have KP400 := KP391.wr W398 (Or.inl (List.mem_of_getElem? (i := 0) rfl))
  have Zs401 := Nat.le_trans Zs392 (Keep.of_wr W398).1
  have f402 := f393.wr W398
  have f403 := f394.other W398 (Or.inr (slot_ne (Or.inl (hw _ (List.mem_of_getElem? (i := 78) rfl))) (Or.inl (hw _ (List.mem_of_getElem? (i := 103) rfl))) (by decide) (t := .byte) (t' := .int) (by decide) (by decide)))
  have f404 := f395.other W398 (Or.inr (slot_ne (Or.inl (hw _ (List.mem_of_getElem? (i := 76) rfl))) (Or.inl (hw _ (List.mem_of_getElem? (i := 103) rfl))) (by decide) (t := (.array .byte)) (t' := .int) (by decide) (by decide)))
  have f405 := f397.wr W398
  have f406 := V389.other W398 ne1
  have F407 := f396.same W398
  have N408 := Fr.snoc X398 N389 g0
  refine own_back st398 ?_
  show OwnGo p e below (T398.setTop (mkF m 53 #[.val (.ref a1), .val (.int (1970 : Int32)), .val (.int (0 : Int32)), .val (.int (4 : Int32))] [])) _
  refine own_back (fun t k => XS.aloadN X398.here hx rfl (hb hby aai1970_0_d53) rfl rfl k) ?_
  show OwnGo p e below (T398.setTop (mkF m 54 #[.val (.ref a1), .val (.int (1970 : Int32)), .val (.int (0 : Int32)), .val (.int (4 : Int32))] [(.ref a1)])) _
  refine own_retA X398 hx Bd.notSynchronized Bd.returns rfl rfl (hb hby aai1970_0_d54) e398 (Nat.le_of_ble_eq_true rfl) (Nat.le_of_ble_eq_true rfl) ?_
  exact ⟨rfl, N408, KP400, _, f402, f403, f404, F407, f406, f405, Nat.le_of_ble_eq_true rfl, Nat.le_of_ble_eq_true rfl⟩
theorem sai1970_0_d0 : decode jdk_67_method_15_code 0 = .ok (.aload_n 0, 1) := by decide +kernel
theorem sai1970_0_d1 : decode jdk_67_method_15_code 1 = .ok (.iload_n 1, 1) := by decide +kernel
theorem sai1970_0_d2 : decode jdk_67_method_15_code 2 = .ok (.invokespecial 53, 3) := by decide +kernel
theorem sai1970_0_d5 : decode jdk_67_method_15_code 5 = .ok (.pop, 1) := by decide +kernel
theorem sai1970_0_d6 : decode jdk_67_method_15_code 6 = .ok (.aload_n 0, 1) := by decide +kernel
theorem sai1970_0_d7 : decode jdk_67_method_15_code 7 = .ok (.areturn, 1) := by decide +kernel
theorem sai1970_0_pn : plainName "java/lang/StringBuilder" = true := by first | (simp [plainName, overriddenIn]; done) | decide +kernel
theorem sai1970_0_pd0 : parseMethodDescriptor "(I)Ljava/lang/AbstractStringBuilder;" = some ⟨[.int], some (.object "java/lang/AbstractStringBuilder")⟩ := by decide +kernel
theorem sai1970_0_ef (m : MethodId) (x0 : Addr) (x1 : Int32) : entryFrame m #[(.ref x0), (.int x1)] 2 = mkF m 0 #[.val (.ref x0), .val (.int x1)] [] := by first | (simp [entryFrame, mkF, argsToLocals, Value.category]; done) | rfl
set_option maxRecDepth 65536 in
set_option maxHeartbeats 40000000 in
theorem rm_sai1970_0 (l : Launch) (Z : State) (a0 : Array Value) (hw : ∀ d ∈ tables_1, d.before a0 Z = true) (ws : List Jvm.Cond) (a1 : Addr) (t1 : Addr) (x0 : Int32) (x1 : Int32) (x2 : Int32) (x3 : Int32) (x4 : Int32) (x5 : Int32) (x6 : Int32) (x7 : Int32) (x8 : Int32) (x9 : Int32) (wO : Addr) (wT : Addr) (kO : ClassId) (kT : ClassId) (cz : Int32) (h0 : Heap) (n0 : Nat) (Z0 : n0 ≤ h0.size) (OL : Old Z n0 h0) (B1 : OwnBd Z h0 a1 t1 [x0, x1, x2, x3, x4, x5, x6, x7, x8, x9] 0) (g0 : n0 ≤ a1) (g1 : n0 ≤ t1) (SO1 : Sta Z Z.heap "java/lang/Integer" "DigitOnes" "[B" (.ref wO)) (SO2 : Sta Z Z.heap "java/lang/Integer" "DigitTens" "[B" (.ref wT)) (AO1 : Arv Z Z.heap wO kO .byte (100 : Int32) own_ones (.int 0)) (AO2 : Arv Z Z.heap wT kT .byte (100 : Int32) own_tens (.int 0)) (SC : Sta Z Z.heap "java/lang/String" "COMPACT_STRINGS" "Z" (.int cz)) (hcz : ¬ cz = 0) :
    MetFree l (⟨"java/lang/StringBuilder", "append", "(I)Ljava/lang/StringBuilder;"⟩ : MethodName) (head1 (Jvm.Cond.code (⟨"java/lang/StringBuilder", "append", "(I)Ljava/lang/StringBuilder;"⟩ : MethodName) jdk_67_method_15_code 2 (some (.object "java/lang/StringBuilder")) :: ws) ({ frames := 2, cells := 0, slots := 0, locals := 44 } : Room)) (fun a U => a = #[(.ref a1), (.int (1970 : Int32))] ∧ Z.Warmed39 U.vm ∧ U.heap = h0) (fun _ _ _ _ _ => True) (fun _ U o U' => OwnEnd U (fun v h L => v = some (.ref a1) ∧ Fr n0 L ∧ Keep h0 h [a1, t1] ∧ OwnBd Z h a1 t1 [49, 57, 55, 48, x4, x5, x6, x7, x8, x9] 4) ({ frames := 2, cells := 0, slots := 0, locals := 44 } : Room).cells ({ frames := 2, cells := 0, slots := 0, locals := 44 } : Room).slots o U') := by
  refine MetFree.of_bodySF (plainFor_of_name sai1970_0_pn) hisR ?_
  intro p e s m args below meth c s₁ Bd hml0 hP hK
  obtain ⟨rfl, hZ, hh⟩ := hP
  have hx := Bd.exec
  have hby := Bd.bytes
  have hml : c.maxLocals = 2 := hml0
  have hown : s.vm.findClass "java/lang/StringBuilder" = some m.cls := findClass_of_methodNamed Bd.named
  have hnm := (name_of_methodNamed Bd.named Bd.method).1
  have X0 : Stand p l e ({ frames := 2, cells := 0, slots := 0, locals := 44 } : Room) s m #[(.ref a1), (.int (1970 : Int32))] below meth c s₁ [] 0 0 := Stand.of_body Bd
  have e0 : s₁.heap = h0 := by rw [← hh, Bd.state]; rfl
  have N0 := Fr.nil n0
  have KP0 := Keep.refl h0 [a1, t1]
  refine own_go (Q := (OwnEnd s (fun v h L => v = some (.ref a1) ∧ Fr n0 L ∧ Keep h0 h [a1, t1] ∧ OwnBd Z h a1 t1 [49, 57, 55, 48, x4, x5, x6, x7, x8, x9] 4) ({ frames := 2, cells := 0, slots := 0, locals := 44 } : Room).cells ({ frames := 2, cells := 0, slots := 0, locals := 44 } : Room).slots)) ?_
  refine own_back (fun t k => castTop (sai1970_0_ef m a1 (1970 : Int32)) k) ?_
  show OwnGo p e below (s₁.setTop (mkF m 0 #[.val (.ref a1), .val (.int (1970 : Int32))] [])) _
  obtain ⟨k1, E1, -⟩ := id B1
  refine own_back (fun t k => XS.aloadN X0.here hx rfl (hb hby sai1970_0_d0) rfl rfl k) ?_
  show OwnGo p e below (s₁.setTop (mkF m 1 #[.val (.ref a1), .val (.int (1970 : Int32))] [(.ref a1)])) _
  refine own_back (fun t k => XS.iloadN X0.here hx rfl (hb hby sai1970_0_d1) rfl k) ?_
  show OwnGo p e below (s₁.setTop (mkF m 2 #[.val (.ref a1), .val (.int (1970 : Int32))] [(.int (1970 : Int32)), (.ref a1)])) _
  obtain ⟨_, _, ⟨T409, L409, k409, n409⟩, -, X409, ⟨Lc409, hQ409, l409, y409, z409⟩, st409⟩ := superBack X0 hx hZ (y := (⟨"java/lang/AbstractStringBuilder", "append", "(I)Ljava/lang/AbstractStringBuilder;"⟩ : MethodName)) hown (hw _ (List.mem_of_getElem? (i := 217) rfl)) (own_sameZ (hw _ (List.mem_of_getElem? (i := 219) rfl)) (own_decl (hw _ (List.mem_of_getElem? (i := 105) rfl)) (hw _ (List.mem_of_getElem? (i := 108) rfl))) (hw _ (List.mem_of_getElem? (i := 107) rfl)) rfl (by decide)) (hw _ (List.mem_of_getElem? (i := 218) rfl)) (hw _ (List.mem_of_getElem? (i := 86) rfl)) (by decide) (own_backN (W := 0) (rm_aai1970_0 l Z a0 hw [] a1 t1 x0 x1 x2 x3 x4 x5 x6 x7 x8 x9 wO wT kO kT cz h0 n0 Z0 OL B1 g0 g1 SO1 SO2 AO1 AO2 SC hcz) hZ (hw _ (List.mem_of_getElem? (i := 220) rfl)) (hw _ (List.mem_of_getElem? (i := 71) rfl)) (by decide) (by decide)) e0 (Ins.self E1) (g := (mkF m 2 #[.val (.ref a1), .val (.int (1970 : Int32))] [(.int (1970 : Int32)), (.ref a1)])) rfl (by rw [hml]; rfl) (hw _ (List.mem_of_getElem? (i := 220) rfl)) (argsL := [(.int (1970 : Int32))]) (rest := []) (lenOf sai1970_0_pd0 rfl) rfl (by show 2 * 0 + _ ≤ _; exact Nat.le_of_eq rfl) (hb hby sai1970_0_d2) (fun _ _ => ⟨rfl, e0, Nat.le_of_ble_eq_true rfl, Nat.le_of_ble_eq_true rfl⟩)
  dsimp only [Pt.U, Pt.locs, Pt.cells, Pt.slots] at X409 l409 y409 z409 st409 hQ409
  subst l409 y409 z409
  obtain ⟨rfl, N409q, K409, Q409⟩ := hQ409
  refine own_seq st409 ?_
  have N409 := Fr.app N0 N409q
  have O410 := OL.keep K409 (allS g0 (allS g1 all0))
  have KP411 := KP0.trans K409 (allS (Or.inl (List.mem_of_getElem? (i := 0) rfl)) (allS (Or.inl (List.mem_of_getElem? (i := 1) rfl)) all0))
  have Zs412 := Nat.le_trans Z0 K409.1
  show OwnGo p e below (T409.setTop (mkF m 5 #[.val (.ref a1), .val (.int (1970 : Int32))] [(.ref a1)])) _
  refine own_back (fun t k => XS.pop X409.here hx rfl (hb hby sai1970_0_d5) rfl rfl k) ?_
  show OwnGo p e below (T409.setTop (mkF m 6 #[.val (.ref a1), .val (.int (1970 : Int32))] [])) _
  refine own_back (fun t k => XS.aloadN X409.here hx rfl (hb hby sai1970_0_d6) rfl rfl k) ?_
  show OwnGo p e below (T409.setTop (mkF m 7 #[.val (.ref a1), .val (.int (1970 : Int32))] [(.ref a1)])) _
  refine own_retA X409 hx Bd.notSynchronized Bd.returns rfl rfl (hb hby sai1970_0_d7) rfl (Nat.le_of_ble_eq_true rfl) (Nat.le_of_ble_eq_true rfl) ?_
  exact ⟨rfl, N409, KP411, Q409⟩
theorem aai1_6_d0 : decode jdk_68_method_32_code 0 = .ok (.aload_n 0, 1) := by decide +kernel
theorem aai1_6_d1 : decode jdk_68_method_32_code 1 = .ok (.getfield 79, 3) := by decide +kernel
theorem aai1_6_d4 : decode jdk_68_method_32_code 4 = .ok (.istore_n 2, 1) := by decide +kernel
theorem aai1_6_d5 : decode jdk_68_method_32_code 5 = .ok (.iload_n 2, 1) := by decide +kernel
theorem aai1_6_d6 : decode jdk_68_method_32_code 6 = .ok (.iload_n 1, 1) := by decide +kernel
theorem aai1_6_d7 : decode jdk_68_method_32_code 7 = .ok (.invokestatic 245, 3) := by decide +kernel
theorem aai1_6_d10 : decode jdk_68_method_32_code 10 = .ok (.iadd, 1) := by decide +kernel
theorem aai1_6_d11 : decode jdk_68_method_32_code 11 = .ok (.istore_n 3, 1) := by decide +kernel
theorem aai1_6_d12 : decode jdk_68_method_32_code 12 = .ok (.aload_n 0, 1) := by decide +kernel
theorem aai1_6_d13 : decode jdk_68_method_32_code 13 = .ok (.iload_n 3, 1) := by decide +kernel
theorem aai1_6_d14 : decode jdk_68_method_32_code 14 = .ok (.invokevirtual 100, 3) := by decide +kernel
theorem aai1_6_d17 : decode jdk_68_method_32_code 17 = .ok (.aload_n 0, 1) := by decide +kernel
theorem aai1_6_d18 : decode jdk_68_method_32_code 18 = .ok (.invokevirtual 83, 3) := by decide +kernel
theorem aai1_6_d21 : decode jdk_68_method_32_code 21 = .ok (.ifCond .eq 16, 3) := by decide +kernel
theorem aai1_6_d24 : decode jdk_68_method_32_code 24 = .ok (.iload_n 1, 1) := by decide +kernel
theorem aai1_6_d25 : decode jdk_68_method_32_code 25 = .ok (.iload_n 3, 1) := by decide +kernel
theorem aai1_6_d26 : decode jdk_68_method_32_code 26 = .ok (.aload_n 0, 1) := by decide +kernel
theorem aai1_6_d27 : decode jdk_68_method_32_code 27 = .ok (.getfield 15, 3) := by decide +kernel
theorem aai1_6_d30 : decode jdk_68_method_32_code 30 = .ok (.invokestatic 248, 3) := by decide +kernel
theorem aai1_6_d33 : decode jdk_68_method_32_code 33 = .ok (.pop, 1) := by decide +kernel
theorem aai1_6_d34 : decode jdk_68_method_32_code 34 = .ok (.goto 14, 3) := by decide +kernel
theorem aai1_6_d48 : decode jdk_68_method_32_code 48 = .ok (.aload_n 0, 1) := by decide +kernel
theorem aai1_6_d49 : decode jdk_68_method_32_code 49 = .ok (.iload_n 3, 1) := by decide +kernel
theorem aai1_6_d50 : decode jdk_68_method_32_code 50 = .ok (.putfield 79, 3) := by decide +kernel
theorem aai1_6_d53 : decode jdk_68_method_32_code 53 = .ok (.aload_n 0, 1) := by decide +kernel
theorem aai1_6_d54 : decode jdk_68_method_32_code 54 = .ok (.areturn, 1) := by decide +kernel
theorem aai1_6_pn : plainName "java/lang/AbstractStringBuilder" = true := by first | (simp [plainName, overriddenIn]; done) | decide +kernel
theorem aai1_6_pd0 : parseMethodDescriptor "(I)I" = some ⟨[.int], some .int⟩ := by decide +kernel
theorem aai1_6_pd1 : parseMethodDescriptor "(I)V" = some ⟨[.int], none⟩ := by decide +kernel
theorem aai1_6_pd2 : parseMethodDescriptor "()Z" = some ⟨[], some .boolean⟩ := by decide +kernel
theorem aai1_6_pd3 : parseMethodDescriptor "(II[B)I" = some ⟨[.int, .int, (.array .byte)], some .int⟩ := by decide +kernel
theorem aai1_6_ef (m : MethodId) (x0 : Addr) (x1 : Int32) : entryFrame m #[(.ref x0), (.int x1)] 4 = mkF m 0 #[.val (.ref x0), .val (.int x1), .unset, .unset] [] := by first | (simp [entryFrame, mkF, argsToLocals, Value.category]; done) | rfl
set_option maxRecDepth 65536 in
set_option maxHeartbeats 40000000 in
theorem rm_aai1_6 (l : Launch) (Z : State) (a0 : Array Value) (hw : ∀ d ∈ tables_1, d.before a0 Z = true) (ws : List Jvm.Cond) (a1 : Addr) (t1 : Addr) (x0 : Int32) (x1 : Int32) (x2 : Int32) (x3 : Int32) (x4 : Int32) (x5 : Int32) (x6 : Int32) (x7 : Int32) (x8 : Int32) (x9 : Int32) (wO : Addr) (wT : Addr) (kO : ClassId) (kT : ClassId) (cz : Int32) (h0 : Heap) (n0 : Nat) (Z0 : n0 ≤ h0.size) (OL : Old Z n0 h0) (B1 : OwnBd Z h0 a1 t1 [x0, x1, x2, x3, x4, x5, x6, x7, x8, x9] 6) (g0 : n0 ≤ a1) (g1 : n0 ≤ t1) (SO1 : Sta Z Z.heap "java/lang/Integer" "DigitOnes" "[B" (.ref wO)) (SO2 : Sta Z Z.heap "java/lang/Integer" "DigitTens" "[B" (.ref wT)) (AO1 : Arv Z Z.heap wO kO .byte (100 : Int32) own_ones (.int 0)) (AO2 : Arv Z Z.heap wT kT .byte (100 : Int32) own_tens (.int 0)) (SC : Sta Z Z.heap "java/lang/String" "COMPACT_STRINGS" "Z" (.int cz)) (hcz : ¬ cz = 0) :
    MetFree l (⟨"java/lang/AbstractStringBuilder", "append", "(I)Ljava/lang/AbstractStringBuilder;"⟩ : MethodName) (head1 (Jvm.Cond.code (⟨"java/lang/AbstractStringBuilder", "append", "(I)Ljava/lang/AbstractStringBuilder;"⟩ : MethodName) jdk_68_method_32_code 4 (some (.object "java/lang/AbstractStringBuilder")) :: ws) ({ frames := 1, cells := 0, slots := 0, locals := 24 } : Room)) (fun a U => a = #[(.ref a1), (.int (1 : Int32))] ∧ Z.Warmed39 U.vm ∧ U.heap = h0) (fun _ _ _ _ _ => True) (fun _ U o U' => OwnEnd U (fun v h L => v = some (.ref a1) ∧ Fr n0 L ∧ Keep h0 h [a1, t1] ∧ OwnBd Z h a1 t1 [x0, x1, x2, x3, x4, x5, 49, x7, x8, x9] 7) ({ frames := 1, cells := 0, slots := 0, locals := 24 } : Room).cells ({ frames := 1, cells := 0, slots := 0, locals := 24 } : Room).slots o U') := by
  refine MetFree.of_bodySF (plainFor_of_name aai1_6_pn) hisR ?_
  intro p e s m args below meth c s₁ Bd hml0 hP hK
  obtain ⟨rfl, hZ, hh⟩ := hP
  have hx := Bd.exec
  have hby := Bd.bytes
  have hml : c.maxLocals = 4 := hml0
  have hown : s.vm.findClass "java/lang/AbstractStringBuilder" = some m.cls := findClass_of_methodNamed Bd.named
  have hnm := (name_of_methodNamed Bd.named Bd.method).1
  have X0 : Stand p l e ({ frames := 1, cells := 0, slots := 0, locals := 24 } : Room) s m #[(.ref a1), (.int (1 : Int32))] below meth c s₁ [] 0 0 := Stand.of_body Bd
  have e0 : s₁.heap = h0 := by rw [← hh, Bd.state]; rfl
  have N0 := Fr.nil n0
  have KP0 := Keep.refl h0 [a1, t1]
  refine own_go (Q := (OwnEnd s (fun v h L => v = some (.ref a1) ∧ Fr n0 L ∧ Keep h0 h [a1, t1] ∧ OwnBd Z h a1 t1 [x0, x1, x2, x3, x4, x5, 49, x7, x8, x9] 7) ({ frames := 1, cells := 0, slots := 0, locals := 24 } : Room).cells ({ frames := 1, cells := 0, slots := 0, locals := 24 } : Room).slots)) ?_
  refine own_back (fun t k => castTop (aai1_6_ef m a1 (1 : Int32)) k) ?_
  show OwnGo p e below (s₁.setTop (mkF m 0 #[.val (.ref a1), .val (.int (1 : Int32)), .unset, .unset] [])) _
  obtain ⟨k1, E1, C1, F1, N1, V1, X1, m1, m2⟩ := id B1
  have ne1 := own_exaarv V1 E1 (hw _ (List.mem_of_getElem? (i := 62) rfl))
  refine own_back (fun t k => XS.aloadN X0.here hx rfl (hb hby aai1_6_d0) rfl rfl k) ?_
  show OwnGo p e below (s₁.setTop (mkF m 1 #[.val (.ref a1), .val (.int (1 : Int32)), .unset, .unset] [(.ref a1)])) _
  obtain ⟨T413, X413, e413, st413⟩ := getF X0 hx hZ hown (host := "") (Or.inl (hw _ (List.mem_of_getElem? (i := 102) rfl))) Via.refl e0 (show Fld Z h0 a1 "java/lang/AbstractStringBuilder" "count" "I" (.int (6 : Int32)) from N1) (g := (mkF m 1 #[.val (.ref a1), .val (.int (1 : Int32)), .unset, .unset] [(.ref a1)])) rfl rfl (hb hby aai1_6_d1)
  refine own_back st413 ?_
  show OwnGo p e below (T413.setTop (mkF m 4 #[.val (.ref a1), .val (.int (1 : Int32)), .unset, .unset] [(.int (6 : Int32))])) _
  refine own_back (fun t k => XS.istoreN X413.here hx rfl (hb hby aai1_6_d4) rfl (l' := #[.val (.ref a1), .val (.int (1 : Int32)), .val (.int (6 : Int32)), .unset]) rfl k) ?_
  show OwnGo p e below (T413.setTop (mkF m 5 #[.val (.ref a1), .val (.int (1 : Int32)), .val (.int (6 : Int32)), .unset] [])) _
  refine own_back (fun t k => XS.iloadN X413.here hx rfl (hb hby aai1_6_d5) rfl k) ?_
  show OwnGo p e below (T413.setTop (mkF m 6 #[.val (.ref a1), .val (.int (1 : Int32)), .val (.int (6 : Int32)), .unset] [(.int (6 : Int32))])) _
  refine own_back (fun t k => XS.iloadN X413.here hx rfl (hb hby aai1_6_d6) rfl k) ?_
  show OwnGo p e below (T413.setTop (mkF m 7 #[.val (.ref a1), .val (.int (1 : Int32)), .val (.int (6 : Int32)), .unset] [(.int (1 : Int32)), (.int (6 : Int32))])) _
  obtain ⟨_, _, ⟨T414, L414, k414, n414⟩, -, X414, ⟨Lc414, hQ414, l414, y414, z414⟩, st414⟩ := Jvm.LawKit.callS X413 hx (y := (⟨"java/lang/Integer", "stringSize", "(I)I"⟩ : MethodName)) hown (mvT hZ (hw _ (List.mem_of_getElem? (i := 221) rfl))) (mvT hZ (hw _ (List.mem_of_getElem? (i := 222) rfl))) (mvT hZ (hw _ (List.mem_of_getElem? (i := 223) rfl))) (mvT hZ (hw _ (List.mem_of_getElem? (i := 224) rfl))) (by decide) (own_backN (W := 1) (rm_ss1 l Z a0 hw [] h0 n0 Z0) hZ (hw _ (List.mem_of_getElem? (i := 224) rfl)) (hw _ (List.mem_of_getElem? (i := 223) rfl)) (by decide) (by decide)) (g := (mkF m 7 #[.val (.ref a1), .val (.int (1 : Int32)), .val (.int (6 : Int32)), .unset] [(.int (1 : Int32)), (.int (6 : Int32))])) rfl (by rw [hml]; rfl) (argsL := [(.int (1 : Int32))]) (rest := [(.int (6 : Int32))]) (lenOf aai1_6_pd0 rfl) rfl (by show 2 * 0 + _ ≤ _; exact Nat.le_of_eq rfl) (hb hby aai1_6_d7) (fun _ _ => ⟨rfl, e413, Nat.le_of_ble_eq_true rfl, Nat.le_of_ble_eq_true rfl⟩)
  dsimp only [Pt.U, Pt.locs, Pt.cells, Pt.slots] at X414 l414 y414 z414 st414 hQ414
  subst l414 y414 z414
  obtain ⟨rfl, N414q, hh414⟩ := hQ414
  refine own_back st414 ?_
  have N414 := Fr.app N0 N414q
  show OwnGo p e below (T414.setTop (mkF m 10 #[.val (.ref a1), .val (.int (1 : Int32)), .val (.int (6 : Int32)), .unset] [(.int (1 : Int32)), (.int (6 : Int32))])) _
  refine own_back (fun t k => XS.iadd X414.here hx rfl (hb hby aai1_6_d10) rfl k) ?_
  show OwnGo p e below (T414.setTop (mkF m 11 #[.val (.ref a1), .val (.int (1 : Int32)), .val (.int (6 : Int32)), .unset] [(.int ((6 : Int32) + (1 : Int32)))])) _
  rw [show ((6 : Int32) + (1 : Int32)) = (7 : Int32) from by decide]
  show OwnGo p e below (T414.setTop (mkF m 11 #[.val (.ref a1), .val (.int (1 : Int32)), .val (.int (6 : Int32)), .unset] [(.int (7 : Int32))])) _
  refine own_back (fun t k => XS.istoreN X414.here hx rfl (hb hby aai1_6_d11) rfl (l' := #[.val (.ref a1), .val (.int (1 : Int32)), .val (.int (6 : Int32)), .val (.int (7 : Int32))]) rfl k) ?_
  show OwnGo p e below (T414.setTop (mkF m 12 #[.val (.ref a1), .val (.int (1 : Int32)), .val (.int (6 : Int32)), .val (.int (7 : Int32))] [])) _
  refine own_back (fun t k => XS.aloadN X414.here hx rfl (hb hby aai1_6_d12) rfl rfl k) ?_
  show OwnGo p e below (T414.setTop (mkF m 13 #[.val (.ref a1), .val (.int (1 : Int32)), .val (.int (6 : Int32)), .val (.int (7 : Int32))] [(.ref a1)])) _
  refine own_back (fun t k => XS.iloadN X414.here hx rfl (hb hby aai1_6_d13) rfl k) ?_
  show OwnGo p e below (T414.setTop (mkF m 14 #[.val (.ref a1), .val (.int (1 : Int32)), .val (.int (6 : Int32)), .val (.int (7 : Int32))] [(.int (7 : Int32)), (.ref a1)])) _
  obtain ⟨cq415, kq415, q415a, q415b, q415c⟩ := isOf hZ hh414 E1
  obtain ⟨_, _, ⟨T415, L415, k415, n415⟩, -, X415, ⟨Lc415, hQ415, l415, y415, z415⟩, st415⟩ := X414.virtualBack hx (y := (⟨"java/lang/AbstractStringBuilder", "ensureCapacityInternal", "(I)V"⟩ : MethodName)) (z := (⟨"java/lang/AbstractStringBuilder", "ensureCapacityInternal", "(I)V"⟩ : MethodName)) hown (mvT hZ (hw _ (List.mem_of_getElem? (i := 104) rfl))) (mvT hZ (own_decl (hw _ (List.mem_of_getElem? (i := 105) rfl)) (hw _ (List.mem_of_getElem? (i := 108) rfl)))) (notFace_of_selects (args := #[]) (mvT hZ (hw _ (List.mem_of_getElem? (i := 107) rfl)))) (mvT hZ (hw _ (List.mem_of_getElem? (i := 107) rfl))) (mvT hZ (hw _ (List.mem_of_getElem? (i := 105) rfl))) (by decide) (own_backN (W := 0) (rm_eci l Z a0 hw [] a1 t1 [x0, x1, x2, x3, x4, x5, x6, x7, x8, x9] 6 7 h0 n0 Z0 B1 (Nat.le_of_ble_eq_true rfl)) hZ (hw _ (List.mem_of_getElem? (i := 108) rfl)) (hw _ (List.mem_of_getElem? (i := 71) rfl)) (by decide) (by decide)) q415a q415c (g := (mkF m 14 #[.val (.ref a1), .val (.int (1 : Int32)), .val (.int (6 : Int32)), .val (.int (7 : Int32))] [(.int (7 : Int32)), (.ref a1)])) rfl (by rw [hml]; rfl) (Steps.refl _) (argsL := [(.int (7 : Int32))]) (rest := []) (lenOf aai1_6_pd1 rfl) rfl (by show 2 * 0 + _ ≤ _; exact Nat.le_of_eq rfl) (hb hby aai1_6_d14) (fun _ _ => ⟨rfl, hh414, Nat.le_of_ble_eq_true rfl, Nat.le_of_ble_eq_true rfl⟩)
  dsimp only [Pt.U, Pt.locs, Pt.cells, Pt.slots] at X415 l415 y415 z415 st415 hQ415
  subst l415 y415 z415
  obtain ⟨rfl, N415q, hh415⟩ := hQ415
  refine own_seq st415 ?_
  have N415 := Fr.app N414 N415q
  show OwnGo p e below (T415.setTop (mkF m 17 #[.val (.ref a1), .val (.int (1 : Int32)), .val (.int (6 : Int32)), .val (.int (7 : Int32))] [])) _
  refine own_back (fun t k => XS.aloadN X415.here hx rfl (hb hby aai1_6_d17) rfl rfl k) ?_
  show OwnGo p e below (T415.setTop (mkF m 18 #[.val (.ref a1), .val (.int (1 : Int32)), .val (.int (6 : Int32)), .val (.int (7 : Int32))] [(.ref a1)])) _
  obtain ⟨cq416, kq416, q416a, q416b, q416c⟩ := isOf hZ hh415 E1
  obtain ⟨_, _, ⟨T416, L416, k416, n416⟩, -, X416, ⟨Lc416, hQ416, l416, y416, z416⟩, st416⟩ := X415.virtualBack hx (y := (⟨"java/lang/AbstractStringBuilder", "isLatin1", "()Z"⟩ : MethodName)) (z := (⟨"java/lang/AbstractStringBuilder", "isLatin1", "()Z"⟩ : MethodName)) hown (mvT hZ (hw _ (List.mem_of_getElem? (i := 225) rfl))) (mvT hZ (hw _ (List.mem_of_getElem? (i := 226) rfl))) (notFace_of_selects (args := #[]) (mvT hZ (hw _ (List.mem_of_getElem? (i := 228) rfl)))) (mvT hZ (hw _ (List.mem_of_getElem? (i := 228) rfl))) (mvT hZ (hw _ (List.mem_of_getElem? (i := 227) rfl))) (by decide) (own_backN (W := 0) (rm_bl1 l Z a0 hw [] a1 cz h0 n0 Z0 OL C1 SC hcz) hZ (hw _ (List.mem_of_getElem? (i := 229) rfl)) (hw _ (List.mem_of_getElem? (i := 71) rfl)) (by decide) (by decide)) q416a q416c (g := (mkF m 18 #[.val (.ref a1), .val (.int (1 : Int32)), .val (.int (6 : Int32)), .val (.int (7 : Int32))] [(.ref a1)])) rfl (by rw [hml]; rfl) (Steps.refl _) (argsL := []) (rest := []) (lenOf aai1_6_pd2 rfl) rfl (by show 2 * 0 + _ ≤ _; exact Nat.le_of_eq rfl) (hb hby aai1_6_d18) (fun _ _ => ⟨rfl, hh415, Nat.le_of_ble_eq_true rfl, Nat.le_of_ble_eq_true rfl⟩)
  dsimp only [Pt.U, Pt.locs, Pt.cells, Pt.slots] at X416 l416 y416 z416 st416 hQ416
  subst l416 y416 z416
  obtain ⟨rfl, N416q, hh416⟩ := hQ416
  refine own_seq st416 ?_
  have N416 := Fr.app N415 N416q
  show OwnGo p e below (T416.setTop (mkF m 21 #[.val (.ref a1), .val (.int (1 : Int32)), .val (.int (6 : Int32)), .val (.int (7 : Int32))] [(.int (1 : Int32))])) _
  refine own_back (fun t k => XS.ifNo X416.here hx rfl (hb hby aai1_6_d21) rfl (Jvm.Free.XT.i0_eq_f (by decide)) k) ?_
  show OwnGo p e below (T416.setTop (mkF m 24 #[.val (.ref a1), .val (.int (1 : Int32)), .val (.int (6 : Int32)), .val (.int (7 : Int32))] [])) _
  refine own_back (fun t k => XS.iloadN X416.here hx rfl (hb hby aai1_6_d24) rfl k) ?_
  show OwnGo p e below (T416.setTop (mkF m 25 #[.val (.ref a1), .val (.int (1 : Int32)), .val (.int (6 : Int32)), .val (.int (7 : Int32))] [(.int (1 : Int32))])) _
  refine own_back (fun t k => XS.iloadN X416.here hx rfl (hb hby aai1_6_d25) rfl k) ?_
  show OwnGo p e below (T416.setTop (mkF m 26 #[.val (.ref a1), .val (.int (1 : Int32)), .val (.int (6 : Int32)), .val (.int (7 : Int32))] [(.int (7 : Int32)), (.int (1 : Int32))])) _
  refine own_back (fun t k => XS.aloadN X416.here hx rfl (hb hby aai1_6_d26) rfl rfl k) ?_
  show OwnGo p e below (T416.setTop (mkF m 27 #[.val (.ref a1), .val (.int (1 : Int32)), .val (.int (6 : Int32)), .val (.int (7 : Int32))] [(.ref a1), (.int (7 : Int32)), (.int (1 : Int32))])) _
  obtain ⟨T417, X417, e417, st417⟩ := getF X416 hx hZ hown (host := "") (Or.inl (hw _ (List.mem_of_getElem? (i := 75) rfl))) Via.refl hh416 F1 (g := (mkF m 27 #[.val (.ref a1), .val (.int (1 : Int32)), .val (.int (6 : Int32)), .val (.int (7 : Int32))] [(.ref a1), (.int (7 : Int32)), (.int (1 : Int32))])) rfl rfl (hb hby aai1_6_d27)
  refine own_back st417 ?_
  show OwnGo p e below (T417.setTop (mkF m 30 #[.val (.ref a1), .val (.int (1 : Int32)), .val (.int (6 : Int32)), .val (.int (7 : Int32))] [(.ref t1), (.int (7 : Int32)), (.int (1 : Int32))])) _
  obtain ⟨_, _, ⟨T418, L418, k418, n418⟩, -, X418, ⟨Lc418, hQ418, l418, y418, z418⟩, st418⟩ := Jvm.LawKit.callS X417 hx (y := (⟨"java/lang/Integer", "getChars", "(II[B)I"⟩ : MethodName)) hown (mvT hZ (hw _ (List.mem_of_getElem? (i := 230) rfl))) (mvT hZ (hw _ (List.mem_of_getElem? (i := 231) rfl))) (mvT hZ (hw _ (List.mem_of_getElem? (i := 223) rfl))) (mvT hZ (hw _ (List.mem_of_getElem? (i := 232) rfl))) (by decide) (own_backN (W := 0) (rm_gc1_6 l Z a0 hw [] t1 k1 x0 x1 x2 x3 x4 x5 x6 x7 x8 x9 wO wT kO kT h0 n0 Z0 OL V1 g1 SO1 SO2 AO1 AO2) hZ (hw _ (List.mem_of_getElem? (i := 232) rfl)) (hw _ (List.mem_of_getElem? (i := 223) rfl)) (by decide) (by decide)) (g := (mkF m 30 #[.val (.ref a1), .val (.int (1 : Int32)), .val (.int (6 : Int32)), .val (.int (7 : Int32))] [(.ref t1), (.int (7 : Int32)), (.int (1 : Int32))])) rfl (by rw [hml]; rfl) (argsL := [(.int (1 : Int32)), (.int (7 : Int32)), (.ref t1)]) (rest := []) (lenOf aai1_6_pd3 rfl) rfl (by show 2 * 0 + _ ≤ _; exact Nat.le_of_eq rfl) (hb hby aai1_6_d30) (fun _ _ => ⟨rfl, e417, Nat.le_of_ble_eq_true rfl, Nat.le_of_ble_eq_true rfl⟩)
  dsimp only [Pt.U, Pt.locs, Pt.cells, Pt.slots] at X418 l418 y418 z418 st418 hQ418
  subst l418 y418 z418
  obtain ⟨rfl, N418q, K418, V418⟩ := hQ418
  refine own_back st418 ?_
  have N418 := Fr.app N416 N418q
  have O419 := OL.keep K418 (allS g1 all0)
  have KP420 := KP0.trans K418 (allS (Or.inl (List.mem_of_getElem? (i := 1) rfl)) all0)
  have Zs421 := Nat.le_trans Z0 K418.1
  have f422 := E1.keep K418
  have f423 := C1.keep K418 (ninS (Ne.symm ne1) nin0)
  have f424 := F1.keep K418 (ninS (Ne.symm ne1) nin0)
  have f425 := (show Fld Z h0 a1 "java/lang/AbstractStringBuilder" "count" "I" (.int (6 : Int32)) from N1).keep K418 (ninS (Ne.symm ne1) nin0)
  have f426 := X1.keep K418
  show OwnGo p e below (T418.setTop (mkF m 33 #[.val (.ref a1), .val (.int (1 : Int32)), .val (.int (6 : Int32)), .val (.int (7 : Int32))] [(.int (6 : Int32))])) _
  refine own_back (fun t k => XS.pop X418.here hx rfl (hb hby aai1_6_d33) rfl rfl k) ?_
  show OwnGo p e below (T418.setTop (mkF m 34 #[.val (.ref a1), .val (.int (1 : Int32)), .val (.int (6 : Int32)), .val (.int (7 : Int32))] [])) _
  refine own_back (fun t k => XS.goto X418.here hx rfl (pc0 := 34) (pc' := 48) rfl (hb hby aai1_6_d34) (by decide) (by decide) k) ?_
  show OwnGo p e below (T418.setTop (mkF m 48 #[.val (.ref a1), .val (.int (1 : Int32)), .val (.int (6 : Int32)), .val (.int (7 : Int32))] [])) _
  refine own_back (fun t k => XS.aloadN X418.here hx rfl (hb hby aai1_6_d48) rfl rfl k) ?_
  show OwnGo p e below (T418.setTop (mkF m 49 #[.val (.ref a1), .val (.int (1 : Int32)), .val (.int (6 : Int32)), .val (.int (7 : Int32))] [(.ref a1)])) _
  refine own_back (fun t k => XS.iloadN X418.here hx rfl (hb hby aai1_6_d49) rfl k) ?_
  show OwnGo p e below (T418.setTop (mkF m 50 #[.val (.ref a1), .val (.int (1 : Int32)), .val (.int (6 : Int32)), .val (.int (7 : Int32))] [(.int (7 : Int32)), (.ref a1)])) _
  obtain ⟨T427, h427, X427, e427, W427, st427⟩ := putF X418 hx hZ hown (host := "") (Or.inl (hw _ (List.mem_of_getElem? (i := 102) rfl))) Via.refl rfl f425 f422 (Or.inl (hw _ (List.mem_of_getElem? (i := 103) rfl))) (hw _ (List.mem_of_getElem? (i := 62) rfl)) (ty := .int) (by decide) rfl rfl (g := (mkF m 50 #[.val (.ref a1), .val (.int (1 : Int32)), .val (.int (6 : Int32)), .val (.int (7 : Int32))] [(.int (7 : Int32)), (.ref a1)])) rfl rfl (hb hby aai1_6_d50)
  have O428 := O419.wr W427 g0
  have KP429 := KP420.wr W427 (Or.inl (List.mem_of_getElem? (i := 0) rfl))
  have Zs430 := Nat.le_trans Zs421 (Keep.of_wr W427).1
  have f431 := f422.wr W427
  have f432 := f423.other W427 (Or.inr (slot_ne (Or.inl (hw _ (List.mem_of_getElem? (i := 78) rfl))) (Or.inl (hw _ (List.mem_of_getElem? (i := 103) rfl))) (by decide) (t := .byte) (t' := .int) (by decide) (by decide)))
  have f433 := f424.other W427 (Or.inr (slot_ne (Or.inl (hw _ (List.mem_of_getElem? (i := 76) rfl))) (Or.inl (hw _ (List.mem_of_getElem? (i := 103) rfl))) (by decide) (t := (.array .byte)) (t' := .int) (by decide) (by decide)))
  have f434 := f426.wr W427
  have f435 := V418.other W427 ne1
  have F436 := f425.same W427
  have N437 := Fr.snoc X427 N418 g0
  refine own_back st427 ?_
  show OwnGo p e below (T427.setTop (mkF m 53 #[.val (.ref a1), .val (.int (1 : Int32)), .val (.int (6 : Int32)), .val (.int (7 : Int32))] [])) _
  refine own_back (fun t k => XS.aloadN X427.here hx rfl (hb hby aai1_6_d53) rfl rfl k) ?_
  show OwnGo p e below (T427.setTop (mkF m 54 #[.val (.ref a1), .val (.int (1 : Int32)), .val (.int (6 : Int32)), .val (.int (7 : Int32))] [(.ref a1)])) _
  refine own_retA X427 hx Bd.notSynchronized Bd.returns rfl rfl (hb hby aai1_6_d54) e427 (Nat.le_of_ble_eq_true rfl) (Nat.le_of_ble_eq_true rfl) ?_
  exact ⟨rfl, N437, KP429, _, f431, f432, f433, F436, f435, f434, Nat.le_of_ble_eq_true rfl, Nat.le_of_ble_eq_true rfl⟩
theorem sai1_6_d0 : decode jdk_67_method_15_code 0 = .ok (.aload_n 0, 1) := by decide +kernel
theorem sai1_6_d1 : decode jdk_67_method_15_code 1 = .ok (.iload_n 1, 1) := by decide +kernel
theorem sai1_6_d2 : decode jdk_67_method_15_code 2 = .ok (.invokespecial 53, 3) := by decide +kernel
theorem sai1_6_d5 : decode jdk_67_method_15_code 5 = .ok (.pop, 1) := by decide +kernel
theorem sai1_6_d6 : decode jdk_67_method_15_code 6 = .ok (.aload_n 0, 1) := by decide +kernel
theorem sai1_6_d7 : decode jdk_67_method_15_code 7 = .ok (.areturn, 1) := by decide +kernel
theorem sai1_6_pn : plainName "java/lang/StringBuilder" = true := by first | (simp [plainName, overriddenIn]; done) | decide +kernel
theorem sai1_6_pd0 : parseMethodDescriptor "(I)Ljava/lang/AbstractStringBuilder;" = some ⟨[.int], some (.object "java/lang/AbstractStringBuilder")⟩ := by decide +kernel
theorem sai1_6_ef (m : MethodId) (x0 : Addr) (x1 : Int32) : entryFrame m #[(.ref x0), (.int x1)] 2 = mkF m 0 #[.val (.ref x0), .val (.int x1)] [] := by first | (simp [entryFrame, mkF, argsToLocals, Value.category]; done) | rfl
set_option maxRecDepth 65536 in
set_option maxHeartbeats 40000000 in
theorem rm_sai1_6 (l : Launch) (Z : State) (a0 : Array Value) (hw : ∀ d ∈ tables_1, d.before a0 Z = true) (ws : List Jvm.Cond) (a1 : Addr) (t1 : Addr) (x0 : Int32) (x1 : Int32) (x2 : Int32) (x3 : Int32) (x4 : Int32) (x5 : Int32) (x6 : Int32) (x7 : Int32) (x8 : Int32) (x9 : Int32) (wO : Addr) (wT : Addr) (kO : ClassId) (kT : ClassId) (cz : Int32) (h0 : Heap) (n0 : Nat) (Z0 : n0 ≤ h0.size) (OL : Old Z n0 h0) (B1 : OwnBd Z h0 a1 t1 [x0, x1, x2, x3, x4, x5, x6, x7, x8, x9] 6) (g0 : n0 ≤ a1) (g1 : n0 ≤ t1) (SO1 : Sta Z Z.heap "java/lang/Integer" "DigitOnes" "[B" (.ref wO)) (SO2 : Sta Z Z.heap "java/lang/Integer" "DigitTens" "[B" (.ref wT)) (AO1 : Arv Z Z.heap wO kO .byte (100 : Int32) own_ones (.int 0)) (AO2 : Arv Z Z.heap wT kT .byte (100 : Int32) own_tens (.int 0)) (SC : Sta Z Z.heap "java/lang/String" "COMPACT_STRINGS" "Z" (.int cz)) (hcz : ¬ cz = 0) :
    MetFree l (⟨"java/lang/StringBuilder", "append", "(I)Ljava/lang/StringBuilder;"⟩ : MethodName) (head1 (Jvm.Cond.code (⟨"java/lang/StringBuilder", "append", "(I)Ljava/lang/StringBuilder;"⟩ : MethodName) jdk_67_method_15_code 2 (some (.object "java/lang/StringBuilder")) :: ws) ({ frames := 2, cells := 0, slots := 0, locals := 44 } : Room)) (fun a U => a = #[(.ref a1), (.int (1 : Int32))] ∧ Z.Warmed39 U.vm ∧ U.heap = h0) (fun _ _ _ _ _ => True) (fun _ U o U' => OwnEnd U (fun v h L => v = some (.ref a1) ∧ Fr n0 L ∧ Keep h0 h [a1, t1] ∧ OwnBd Z h a1 t1 [x0, x1, x2, x3, x4, x5, 49, x7, x8, x9] 7) ({ frames := 2, cells := 0, slots := 0, locals := 44 } : Room).cells ({ frames := 2, cells := 0, slots := 0, locals := 44 } : Room).slots o U') := by
  refine MetFree.of_bodySF (plainFor_of_name sai1_6_pn) hisR ?_
  intro p e s m args below meth c s₁ Bd hml0 hP hK
  obtain ⟨rfl, hZ, hh⟩ := hP
  have hx := Bd.exec
  have hby := Bd.bytes
  have hml : c.maxLocals = 2 := hml0
  have hown : s.vm.findClass "java/lang/StringBuilder" = some m.cls := findClass_of_methodNamed Bd.named
  have hnm := (name_of_methodNamed Bd.named Bd.method).1
  have X0 : Stand p l e ({ frames := 2, cells := 0, slots := 0, locals := 44 } : Room) s m #[(.ref a1), (.int (1 : Int32))] below meth c s₁ [] 0 0 := Stand.of_body Bd
  have e0 : s₁.heap = h0 := by rw [← hh, Bd.state]; rfl
  have N0 := Fr.nil n0
  have KP0 := Keep.refl h0 [a1, t1]
  refine own_go (Q := (OwnEnd s (fun v h L => v = some (.ref a1) ∧ Fr n0 L ∧ Keep h0 h [a1, t1] ∧ OwnBd Z h a1 t1 [x0, x1, x2, x3, x4, x5, 49, x7, x8, x9] 7) ({ frames := 2, cells := 0, slots := 0, locals := 44 } : Room).cells ({ frames := 2, cells := 0, slots := 0, locals := 44 } : Room).slots)) ?_
  refine own_back (fun t k => castTop (sai1_6_ef m a1 (1 : Int32)) k) ?_
  show OwnGo p e below (s₁.setTop (mkF m 0 #[.val (.ref a1), .val (.int (1 : Int32))] [])) _
  obtain ⟨k1, E1, -⟩ := id B1
  refine own_back (fun t k => XS.aloadN X0.here hx rfl (hb hby sai1_6_d0) rfl rfl k) ?_
  show OwnGo p e below (s₁.setTop (mkF m 1 #[.val (.ref a1), .val (.int (1 : Int32))] [(.ref a1)])) _
  refine own_back (fun t k => XS.iloadN X0.here hx rfl (hb hby sai1_6_d1) rfl k) ?_
  show OwnGo p e below (s₁.setTop (mkF m 2 #[.val (.ref a1), .val (.int (1 : Int32))] [(.int (1 : Int32)), (.ref a1)])) _
  obtain ⟨_, _, ⟨T438, L438, k438, n438⟩, -, X438, ⟨Lc438, hQ438, l438, y438, z438⟩, st438⟩ := superBack X0 hx hZ (y := (⟨"java/lang/AbstractStringBuilder", "append", "(I)Ljava/lang/AbstractStringBuilder;"⟩ : MethodName)) hown (hw _ (List.mem_of_getElem? (i := 217) rfl)) (own_sameZ (hw _ (List.mem_of_getElem? (i := 219) rfl)) (own_decl (hw _ (List.mem_of_getElem? (i := 105) rfl)) (hw _ (List.mem_of_getElem? (i := 108) rfl))) (hw _ (List.mem_of_getElem? (i := 107) rfl)) rfl (by decide)) (hw _ (List.mem_of_getElem? (i := 218) rfl)) (hw _ (List.mem_of_getElem? (i := 86) rfl)) (by decide) (own_backN (W := 0) (rm_aai1_6 l Z a0 hw [] a1 t1 x0 x1 x2 x3 x4 x5 x6 x7 x8 x9 wO wT kO kT cz h0 n0 Z0 OL B1 g0 g1 SO1 SO2 AO1 AO2 SC hcz) hZ (hw _ (List.mem_of_getElem? (i := 220) rfl)) (hw _ (List.mem_of_getElem? (i := 71) rfl)) (by decide) (by decide)) e0 (Ins.self E1) (g := (mkF m 2 #[.val (.ref a1), .val (.int (1 : Int32))] [(.int (1 : Int32)), (.ref a1)])) rfl (by rw [hml]; rfl) (hw _ (List.mem_of_getElem? (i := 220) rfl)) (argsL := [(.int (1 : Int32))]) (rest := []) (lenOf sai1_6_pd0 rfl) rfl (by show 2 * 0 + _ ≤ _; exact Nat.le_of_eq rfl) (hb hby sai1_6_d2) (fun _ _ => ⟨rfl, e0, Nat.le_of_ble_eq_true rfl, Nat.le_of_ble_eq_true rfl⟩)
  dsimp only [Pt.U, Pt.locs, Pt.cells, Pt.slots] at X438 l438 y438 z438 st438 hQ438
  subst l438 y438 z438
  obtain ⟨rfl, N438q, K438, Q438⟩ := hQ438
  refine own_seq st438 ?_
  have N438 := Fr.app N0 N438q
  have O439 := OL.keep K438 (allS g0 (allS g1 all0))
  have KP440 := KP0.trans K438 (allS (Or.inl (List.mem_of_getElem? (i := 0) rfl)) (allS (Or.inl (List.mem_of_getElem? (i := 1) rfl)) all0))
  have Zs441 := Nat.le_trans Z0 K438.1
  show OwnGo p e below (T438.setTop (mkF m 5 #[.val (.ref a1), .val (.int (1 : Int32))] [(.ref a1)])) _
  refine own_back (fun t k => XS.pop X438.here hx rfl (hb hby sai1_6_d5) rfl rfl k) ?_
  show OwnGo p e below (T438.setTop (mkF m 6 #[.val (.ref a1), .val (.int (1 : Int32))] [])) _
  refine own_back (fun t k => XS.aloadN X438.here hx rfl (hb hby sai1_6_d6) rfl rfl k) ?_
  show OwnGo p e below (T438.setTop (mkF m 7 #[.val (.ref a1), .val (.int (1 : Int32))] [(.ref a1)])) _
  refine own_retA X438 hx Bd.notSynchronized Bd.returns rfl rfl (hb hby sai1_6_d7) rfl (Nat.le_of_ble_eq_true rfl) (Nat.le_of_ble_eq_true rfl) ?_
  exact ⟨rfl, N438, KP440, Q438⟩
theorem aai1_9_d0 : decode jdk_68_method_32_code 0 = .ok (.aload_n 0, 1) := by decide +kernel
theorem aai1_9_d1 : decode jdk_68_method_32_code 1 = .ok (.getfield 79, 3) := by decide +kernel
theorem aai1_9_d4 : decode jdk_68_method_32_code 4 = .ok (.istore_n 2, 1) := by decide +kernel
theorem aai1_9_d5 : decode jdk_68_method_32_code 5 = .ok (.iload_n 2, 1) := by decide +kernel
theorem aai1_9_d6 : decode jdk_68_method_32_code 6 = .ok (.iload_n 1, 1) := by decide +kernel
theorem aai1_9_d7 : decode jdk_68_method_32_code 7 = .ok (.invokestatic 245, 3) := by decide +kernel
theorem aai1_9_d10 : decode jdk_68_method_32_code 10 = .ok (.iadd, 1) := by decide +kernel
theorem aai1_9_d11 : decode jdk_68_method_32_code 11 = .ok (.istore_n 3, 1) := by decide +kernel
theorem aai1_9_d12 : decode jdk_68_method_32_code 12 = .ok (.aload_n 0, 1) := by decide +kernel
theorem aai1_9_d13 : decode jdk_68_method_32_code 13 = .ok (.iload_n 3, 1) := by decide +kernel
theorem aai1_9_d14 : decode jdk_68_method_32_code 14 = .ok (.invokevirtual 100, 3) := by decide +kernel
theorem aai1_9_d17 : decode jdk_68_method_32_code 17 = .ok (.aload_n 0, 1) := by decide +kernel
theorem aai1_9_d18 : decode jdk_68_method_32_code 18 = .ok (.invokevirtual 83, 3) := by decide +kernel
theorem aai1_9_d21 : decode jdk_68_method_32_code 21 = .ok (.ifCond .eq 16, 3) := by decide +kernel
theorem aai1_9_d24 : decode jdk_68_method_32_code 24 = .ok (.iload_n 1, 1) := by decide +kernel
theorem aai1_9_d25 : decode jdk_68_method_32_code 25 = .ok (.iload_n 3, 1) := by decide +kernel
theorem aai1_9_d26 : decode jdk_68_method_32_code 26 = .ok (.aload_n 0, 1) := by decide +kernel
theorem aai1_9_d27 : decode jdk_68_method_32_code 27 = .ok (.getfield 15, 3) := by decide +kernel
theorem aai1_9_d30 : decode jdk_68_method_32_code 30 = .ok (.invokestatic 248, 3) := by decide +kernel
theorem aai1_9_d33 : decode jdk_68_method_32_code 33 = .ok (.pop, 1) := by decide +kernel
theorem aai1_9_d34 : decode jdk_68_method_32_code 34 = .ok (.goto 14, 3) := by decide +kernel
theorem aai1_9_d48 : decode jdk_68_method_32_code 48 = .ok (.aload_n 0, 1) := by decide +kernel
theorem aai1_9_d49 : decode jdk_68_method_32_code 49 = .ok (.iload_n 3, 1) := by decide +kernel
theorem aai1_9_d50 : decode jdk_68_method_32_code 50 = .ok (.putfield 79, 3) := by decide +kernel
theorem aai1_9_d53 : decode jdk_68_method_32_code 53 = .ok (.aload_n 0, 1) := by decide +kernel
theorem aai1_9_d54 : decode jdk_68_method_32_code 54 = .ok (.areturn, 1) := by decide +kernel
theorem aai1_9_pn : plainName "java/lang/AbstractStringBuilder" = true := by first | (simp [plainName, overriddenIn]; done) | decide +kernel
theorem aai1_9_pd0 : parseMethodDescriptor "(I)I" = some ⟨[.int], some .int⟩ := by decide +kernel
theorem aai1_9_pd1 : parseMethodDescriptor "(I)V" = some ⟨[.int], none⟩ := by decide +kernel
theorem aai1_9_pd2 : parseMethodDescriptor "()Z" = some ⟨[], some .boolean⟩ := by decide +kernel
theorem aai1_9_pd3 : parseMethodDescriptor "(II[B)I" = some ⟨[.int, .int, (.array .byte)], some .int⟩ := by decide +kernel
theorem aai1_9_ef (m : MethodId) (x0 : Addr) (x1 : Int32) : entryFrame m #[(.ref x0), (.int x1)] 4 = mkF m 0 #[.val (.ref x0), .val (.int x1), .unset, .unset] [] := by first | (simp [entryFrame, mkF, argsToLocals, Value.category]; done) | rfl
set_option maxRecDepth 65536 in
set_option maxHeartbeats 40000000 in
theorem rm_aai1_9 (l : Launch) (Z : State) (a0 : Array Value) (hw : ∀ d ∈ tables_1, d.before a0 Z = true) (ws : List Jvm.Cond) (a1 : Addr) (t1 : Addr) (x0 : Int32) (x1 : Int32) (x2 : Int32) (x3 : Int32) (x4 : Int32) (x5 : Int32) (x6 : Int32) (x7 : Int32) (x8 : Int32) (x9 : Int32) (wO : Addr) (wT : Addr) (kO : ClassId) (kT : ClassId) (cz : Int32) (h0 : Heap) (n0 : Nat) (Z0 : n0 ≤ h0.size) (OL : Old Z n0 h0) (B1 : OwnBd Z h0 a1 t1 [x0, x1, x2, x3, x4, x5, x6, x7, x8, x9] 9) (g0 : n0 ≤ a1) (g1 : n0 ≤ t1) (SO1 : Sta Z Z.heap "java/lang/Integer" "DigitOnes" "[B" (.ref wO)) (SO2 : Sta Z Z.heap "java/lang/Integer" "DigitTens" "[B" (.ref wT)) (AO1 : Arv Z Z.heap wO kO .byte (100 : Int32) own_ones (.int 0)) (AO2 : Arv Z Z.heap wT kT .byte (100 : Int32) own_tens (.int 0)) (SC : Sta Z Z.heap "java/lang/String" "COMPACT_STRINGS" "Z" (.int cz)) (hcz : ¬ cz = 0) :
    MetFree l (⟨"java/lang/AbstractStringBuilder", "append", "(I)Ljava/lang/AbstractStringBuilder;"⟩ : MethodName) (head1 (Jvm.Cond.code (⟨"java/lang/AbstractStringBuilder", "append", "(I)Ljava/lang/AbstractStringBuilder;"⟩ : MethodName) jdk_68_method_32_code 4 (some (.object "java/lang/AbstractStringBuilder")) :: ws) ({ frames := 1, cells := 0, slots := 0, locals := 24 } : Room)) (fun a U => a = #[(.ref a1), (.int (1 : Int32))] ∧ Z.Warmed39 U.vm ∧ U.heap = h0) (fun _ _ _ _ _ => True) (fun _ U o U' => OwnEnd U (fun v h L => v = some (.ref a1) ∧ Fr n0 L ∧ Keep h0 h [a1, t1] ∧ OwnBd Z h a1 t1 [x0, x1, x2, x3, x4, x5, x6, x7, x8, 49] 10) ({ frames := 1, cells := 0, slots := 0, locals := 24 } : Room).cells ({ frames := 1, cells := 0, slots := 0, locals := 24 } : Room).slots o U') := by
  refine MetFree.of_bodySF (plainFor_of_name aai1_9_pn) hisR ?_
  intro p e s m args below meth c s₁ Bd hml0 hP hK
  obtain ⟨rfl, hZ, hh⟩ := hP
  have hx := Bd.exec
  have hby := Bd.bytes
  have hml : c.maxLocals = 4 := hml0
  have hown : s.vm.findClass "java/lang/AbstractStringBuilder" = some m.cls := findClass_of_methodNamed Bd.named
  have hnm := (name_of_methodNamed Bd.named Bd.method).1
  have X0 : Stand p l e ({ frames := 1, cells := 0, slots := 0, locals := 24 } : Room) s m #[(.ref a1), (.int (1 : Int32))] below meth c s₁ [] 0 0 := Stand.of_body Bd
  have e0 : s₁.heap = h0 := by rw [← hh, Bd.state]; rfl
  have N0 := Fr.nil n0
  have KP0 := Keep.refl h0 [a1, t1]
  refine own_go (Q := (OwnEnd s (fun v h L => v = some (.ref a1) ∧ Fr n0 L ∧ Keep h0 h [a1, t1] ∧ OwnBd Z h a1 t1 [x0, x1, x2, x3, x4, x5, x6, x7, x8, 49] 10) ({ frames := 1, cells := 0, slots := 0, locals := 24 } : Room).cells ({ frames := 1, cells := 0, slots := 0, locals := 24 } : Room).slots)) ?_
  refine own_back (fun t k => castTop (aai1_9_ef m a1 (1 : Int32)) k) ?_
  show OwnGo p e below (s₁.setTop (mkF m 0 #[.val (.ref a1), .val (.int (1 : Int32)), .unset, .unset] [])) _
  obtain ⟨k1, E1, C1, F1, N1, V1, X1, m1, m2⟩ := id B1
  have ne1 := own_exaarv V1 E1 (hw _ (List.mem_of_getElem? (i := 62) rfl))
  refine own_back (fun t k => XS.aloadN X0.here hx rfl (hb hby aai1_9_d0) rfl rfl k) ?_
  show OwnGo p e below (s₁.setTop (mkF m 1 #[.val (.ref a1), .val (.int (1 : Int32)), .unset, .unset] [(.ref a1)])) _
  obtain ⟨T442, X442, e442, st442⟩ := getF X0 hx hZ hown (host := "") (Or.inl (hw _ (List.mem_of_getElem? (i := 102) rfl))) Via.refl e0 (show Fld Z h0 a1 "java/lang/AbstractStringBuilder" "count" "I" (.int (9 : Int32)) from N1) (g := (mkF m 1 #[.val (.ref a1), .val (.int (1 : Int32)), .unset, .unset] [(.ref a1)])) rfl rfl (hb hby aai1_9_d1)
  refine own_back st442 ?_
  show OwnGo p e below (T442.setTop (mkF m 4 #[.val (.ref a1), .val (.int (1 : Int32)), .unset, .unset] [(.int (9 : Int32))])) _
  refine own_back (fun t k => XS.istoreN X442.here hx rfl (hb hby aai1_9_d4) rfl (l' := #[.val (.ref a1), .val (.int (1 : Int32)), .val (.int (9 : Int32)), .unset]) rfl k) ?_
  show OwnGo p e below (T442.setTop (mkF m 5 #[.val (.ref a1), .val (.int (1 : Int32)), .val (.int (9 : Int32)), .unset] [])) _
  refine own_back (fun t k => XS.iloadN X442.here hx rfl (hb hby aai1_9_d5) rfl k) ?_
  show OwnGo p e below (T442.setTop (mkF m 6 #[.val (.ref a1), .val (.int (1 : Int32)), .val (.int (9 : Int32)), .unset] [(.int (9 : Int32))])) _
  refine own_back (fun t k => XS.iloadN X442.here hx rfl (hb hby aai1_9_d6) rfl k) ?_
  show OwnGo p e below (T442.setTop (mkF m 7 #[.val (.ref a1), .val (.int (1 : Int32)), .val (.int (9 : Int32)), .unset] [(.int (1 : Int32)), (.int (9 : Int32))])) _
  obtain ⟨_, _, ⟨T443, L443, k443, n443⟩, -, X443, ⟨Lc443, hQ443, l443, y443, z443⟩, st443⟩ := Jvm.LawKit.callS X442 hx (y := (⟨"java/lang/Integer", "stringSize", "(I)I"⟩ : MethodName)) hown (mvT hZ (hw _ (List.mem_of_getElem? (i := 221) rfl))) (mvT hZ (hw _ (List.mem_of_getElem? (i := 222) rfl))) (mvT hZ (hw _ (List.mem_of_getElem? (i := 223) rfl))) (mvT hZ (hw _ (List.mem_of_getElem? (i := 224) rfl))) (by decide) (own_backN (W := 1) (rm_ss1 l Z a0 hw [] h0 n0 Z0) hZ (hw _ (List.mem_of_getElem? (i := 224) rfl)) (hw _ (List.mem_of_getElem? (i := 223) rfl)) (by decide) (by decide)) (g := (mkF m 7 #[.val (.ref a1), .val (.int (1 : Int32)), .val (.int (9 : Int32)), .unset] [(.int (1 : Int32)), (.int (9 : Int32))])) rfl (by rw [hml]; rfl) (argsL := [(.int (1 : Int32))]) (rest := [(.int (9 : Int32))]) (lenOf aai1_9_pd0 rfl) rfl (by show 2 * 0 + _ ≤ _; exact Nat.le_of_eq rfl) (hb hby aai1_9_d7) (fun _ _ => ⟨rfl, e442, Nat.le_of_ble_eq_true rfl, Nat.le_of_ble_eq_true rfl⟩)
  dsimp only [Pt.U, Pt.locs, Pt.cells, Pt.slots] at X443 l443 y443 z443 st443 hQ443
  subst l443 y443 z443
  obtain ⟨rfl, N443q, hh443⟩ := hQ443
  refine own_back st443 ?_
  have N443 := Fr.app N0 N443q
  show OwnGo p e below (T443.setTop (mkF m 10 #[.val (.ref a1), .val (.int (1 : Int32)), .val (.int (9 : Int32)), .unset] [(.int (1 : Int32)), (.int (9 : Int32))])) _
  refine own_back (fun t k => XS.iadd X443.here hx rfl (hb hby aai1_9_d10) rfl k) ?_
  show OwnGo p e below (T443.setTop (mkF m 11 #[.val (.ref a1), .val (.int (1 : Int32)), .val (.int (9 : Int32)), .unset] [(.int ((9 : Int32) + (1 : Int32)))])) _
  rw [show ((9 : Int32) + (1 : Int32)) = (10 : Int32) from by decide]
  show OwnGo p e below (T443.setTop (mkF m 11 #[.val (.ref a1), .val (.int (1 : Int32)), .val (.int (9 : Int32)), .unset] [(.int (10 : Int32))])) _
  refine own_back (fun t k => XS.istoreN X443.here hx rfl (hb hby aai1_9_d11) rfl (l' := #[.val (.ref a1), .val (.int (1 : Int32)), .val (.int (9 : Int32)), .val (.int (10 : Int32))]) rfl k) ?_
  show OwnGo p e below (T443.setTop (mkF m 12 #[.val (.ref a1), .val (.int (1 : Int32)), .val (.int (9 : Int32)), .val (.int (10 : Int32))] [])) _
  refine own_back (fun t k => XS.aloadN X443.here hx rfl (hb hby aai1_9_d12) rfl rfl k) ?_
  show OwnGo p e below (T443.setTop (mkF m 13 #[.val (.ref a1), .val (.int (1 : Int32)), .val (.int (9 : Int32)), .val (.int (10 : Int32))] [(.ref a1)])) _
  refine own_back (fun t k => XS.iloadN X443.here hx rfl (hb hby aai1_9_d13) rfl k) ?_
  show OwnGo p e below (T443.setTop (mkF m 14 #[.val (.ref a1), .val (.int (1 : Int32)), .val (.int (9 : Int32)), .val (.int (10 : Int32))] [(.int (10 : Int32)), (.ref a1)])) _
  obtain ⟨cq444, kq444, q444a, q444b, q444c⟩ := isOf hZ hh443 E1
  obtain ⟨_, _, ⟨T444, L444, k444, n444⟩, -, X444, ⟨Lc444, hQ444, l444, y444, z444⟩, st444⟩ := X443.virtualBack hx (y := (⟨"java/lang/AbstractStringBuilder", "ensureCapacityInternal", "(I)V"⟩ : MethodName)) (z := (⟨"java/lang/AbstractStringBuilder", "ensureCapacityInternal", "(I)V"⟩ : MethodName)) hown (mvT hZ (hw _ (List.mem_of_getElem? (i := 104) rfl))) (mvT hZ (own_decl (hw _ (List.mem_of_getElem? (i := 105) rfl)) (hw _ (List.mem_of_getElem? (i := 108) rfl)))) (notFace_of_selects (args := #[]) (mvT hZ (hw _ (List.mem_of_getElem? (i := 107) rfl)))) (mvT hZ (hw _ (List.mem_of_getElem? (i := 107) rfl))) (mvT hZ (hw _ (List.mem_of_getElem? (i := 105) rfl))) (by decide) (own_backN (W := 0) (rm_eci l Z a0 hw [] a1 t1 [x0, x1, x2, x3, x4, x5, x6, x7, x8, x9] 9 10 h0 n0 Z0 B1 (Nat.le_of_ble_eq_true rfl)) hZ (hw _ (List.mem_of_getElem? (i := 108) rfl)) (hw _ (List.mem_of_getElem? (i := 71) rfl)) (by decide) (by decide)) q444a q444c (g := (mkF m 14 #[.val (.ref a1), .val (.int (1 : Int32)), .val (.int (9 : Int32)), .val (.int (10 : Int32))] [(.int (10 : Int32)), (.ref a1)])) rfl (by rw [hml]; rfl) (Steps.refl _) (argsL := [(.int (10 : Int32))]) (rest := []) (lenOf aai1_9_pd1 rfl) rfl (by show 2 * 0 + _ ≤ _; exact Nat.le_of_eq rfl) (hb hby aai1_9_d14) (fun _ _ => ⟨rfl, hh443, Nat.le_of_ble_eq_true rfl, Nat.le_of_ble_eq_true rfl⟩)
  dsimp only [Pt.U, Pt.locs, Pt.cells, Pt.slots] at X444 l444 y444 z444 st444 hQ444
  subst l444 y444 z444
  obtain ⟨rfl, N444q, hh444⟩ := hQ444
  refine own_seq st444 ?_
  have N444 := Fr.app N443 N444q
  show OwnGo p e below (T444.setTop (mkF m 17 #[.val (.ref a1), .val (.int (1 : Int32)), .val (.int (9 : Int32)), .val (.int (10 : Int32))] [])) _
  refine own_back (fun t k => XS.aloadN X444.here hx rfl (hb hby aai1_9_d17) rfl rfl k) ?_
  show OwnGo p e below (T444.setTop (mkF m 18 #[.val (.ref a1), .val (.int (1 : Int32)), .val (.int (9 : Int32)), .val (.int (10 : Int32))] [(.ref a1)])) _
  obtain ⟨cq445, kq445, q445a, q445b, q445c⟩ := isOf hZ hh444 E1
  obtain ⟨_, _, ⟨T445, L445, k445, n445⟩, -, X445, ⟨Lc445, hQ445, l445, y445, z445⟩, st445⟩ := X444.virtualBack hx (y := (⟨"java/lang/AbstractStringBuilder", "isLatin1", "()Z"⟩ : MethodName)) (z := (⟨"java/lang/AbstractStringBuilder", "isLatin1", "()Z"⟩ : MethodName)) hown (mvT hZ (hw _ (List.mem_of_getElem? (i := 225) rfl))) (mvT hZ (hw _ (List.mem_of_getElem? (i := 226) rfl))) (notFace_of_selects (args := #[]) (mvT hZ (hw _ (List.mem_of_getElem? (i := 228) rfl)))) (mvT hZ (hw _ (List.mem_of_getElem? (i := 228) rfl))) (mvT hZ (hw _ (List.mem_of_getElem? (i := 227) rfl))) (by decide) (own_backN (W := 0) (rm_bl1 l Z a0 hw [] a1 cz h0 n0 Z0 OL C1 SC hcz) hZ (hw _ (List.mem_of_getElem? (i := 229) rfl)) (hw _ (List.mem_of_getElem? (i := 71) rfl)) (by decide) (by decide)) q445a q445c (g := (mkF m 18 #[.val (.ref a1), .val (.int (1 : Int32)), .val (.int (9 : Int32)), .val (.int (10 : Int32))] [(.ref a1)])) rfl (by rw [hml]; rfl) (Steps.refl _) (argsL := []) (rest := []) (lenOf aai1_9_pd2 rfl) rfl (by show 2 * 0 + _ ≤ _; exact Nat.le_of_eq rfl) (hb hby aai1_9_d18) (fun _ _ => ⟨rfl, hh444, Nat.le_of_ble_eq_true rfl, Nat.le_of_ble_eq_true rfl⟩)
  dsimp only [Pt.U, Pt.locs, Pt.cells, Pt.slots] at X445 l445 y445 z445 st445 hQ445
  subst l445 y445 z445
  obtain ⟨rfl, N445q, hh445⟩ := hQ445
  refine own_seq st445 ?_
  have N445 := Fr.app N444 N445q
  show OwnGo p e below (T445.setTop (mkF m 21 #[.val (.ref a1), .val (.int (1 : Int32)), .val (.int (9 : Int32)), .val (.int (10 : Int32))] [(.int (1 : Int32))])) _
  refine own_back (fun t k => XS.ifNo X445.here hx rfl (hb hby aai1_9_d21) rfl (Jvm.Free.XT.i0_eq_f (by decide)) k) ?_
  show OwnGo p e below (T445.setTop (mkF m 24 #[.val (.ref a1), .val (.int (1 : Int32)), .val (.int (9 : Int32)), .val (.int (10 : Int32))] [])) _
  refine own_back (fun t k => XS.iloadN X445.here hx rfl (hb hby aai1_9_d24) rfl k) ?_
  show OwnGo p e below (T445.setTop (mkF m 25 #[.val (.ref a1), .val (.int (1 : Int32)), .val (.int (9 : Int32)), .val (.int (10 : Int32))] [(.int (1 : Int32))])) _
  refine own_back (fun t k => XS.iloadN X445.here hx rfl (hb hby aai1_9_d25) rfl k) ?_
  show OwnGo p e below (T445.setTop (mkF m 26 #[.val (.ref a1), .val (.int (1 : Int32)), .val (.int (9 : Int32)), .val (.int (10 : Int32))] [(.int (10 : Int32)), (.int (1 : Int32))])) _
  refine own_back (fun t k => XS.aloadN X445.here hx rfl (hb hby aai1_9_d26) rfl rfl k) ?_
  show OwnGo p e below (T445.setTop (mkF m 27 #[.val (.ref a1), .val (.int (1 : Int32)), .val (.int (9 : Int32)), .val (.int (10 : Int32))] [(.ref a1), (.int (10 : Int32)), (.int (1 : Int32))])) _
  obtain ⟨T446, X446, e446, st446⟩ := getF X445 hx hZ hown (host := "") (Or.inl (hw _ (List.mem_of_getElem? (i := 75) rfl))) Via.refl hh445 F1 (g := (mkF m 27 #[.val (.ref a1), .val (.int (1 : Int32)), .val (.int (9 : Int32)), .val (.int (10 : Int32))] [(.ref a1), (.int (10 : Int32)), (.int (1 : Int32))])) rfl rfl (hb hby aai1_9_d27)
  refine own_back st446 ?_
  show OwnGo p e below (T446.setTop (mkF m 30 #[.val (.ref a1), .val (.int (1 : Int32)), .val (.int (9 : Int32)), .val (.int (10 : Int32))] [(.ref t1), (.int (10 : Int32)), (.int (1 : Int32))])) _
  obtain ⟨_, _, ⟨T447, L447, k447, n447⟩, -, X447, ⟨Lc447, hQ447, l447, y447, z447⟩, st447⟩ := Jvm.LawKit.callS X446 hx (y := (⟨"java/lang/Integer", "getChars", "(II[B)I"⟩ : MethodName)) hown (mvT hZ (hw _ (List.mem_of_getElem? (i := 230) rfl))) (mvT hZ (hw _ (List.mem_of_getElem? (i := 231) rfl))) (mvT hZ (hw _ (List.mem_of_getElem? (i := 223) rfl))) (mvT hZ (hw _ (List.mem_of_getElem? (i := 232) rfl))) (by decide) (own_backN (W := 0) (rm_gc1_9 l Z a0 hw [] t1 k1 x0 x1 x2 x3 x4 x5 x6 x7 x8 x9 wO wT kO kT h0 n0 Z0 OL V1 g1 SO1 SO2 AO1 AO2) hZ (hw _ (List.mem_of_getElem? (i := 232) rfl)) (hw _ (List.mem_of_getElem? (i := 223) rfl)) (by decide) (by decide)) (g := (mkF m 30 #[.val (.ref a1), .val (.int (1 : Int32)), .val (.int (9 : Int32)), .val (.int (10 : Int32))] [(.ref t1), (.int (10 : Int32)), (.int (1 : Int32))])) rfl (by rw [hml]; rfl) (argsL := [(.int (1 : Int32)), (.int (10 : Int32)), (.ref t1)]) (rest := []) (lenOf aai1_9_pd3 rfl) rfl (by show 2 * 0 + _ ≤ _; exact Nat.le_of_eq rfl) (hb hby aai1_9_d30) (fun _ _ => ⟨rfl, e446, Nat.le_of_ble_eq_true rfl, Nat.le_of_ble_eq_true rfl⟩)
  dsimp only [Pt.U, Pt.locs, Pt.cells, Pt.slots] at X447 l447 y447 z447 st447 hQ447
  subst l447 y447 z447
  obtain ⟨rfl, N447q, K447, V447⟩ := hQ447
  refine own_back st447 ?_
  have N447 := Fr.app N445 N447q
  have O448 := OL.keep K447 (allS g1 all0)
  have KP449 := KP0.trans K447 (allS (Or.inl (List.mem_of_getElem? (i := 1) rfl)) all0)
  have Zs450 := Nat.le_trans Z0 K447.1
  have f451 := E1.keep K447
  have f452 := C1.keep K447 (ninS (Ne.symm ne1) nin0)
  have f453 := F1.keep K447 (ninS (Ne.symm ne1) nin0)
  have f454 := (show Fld Z h0 a1 "java/lang/AbstractStringBuilder" "count" "I" (.int (9 : Int32)) from N1).keep K447 (ninS (Ne.symm ne1) nin0)
  have f455 := X1.keep K447
  show OwnGo p e below (T447.setTop (mkF m 33 #[.val (.ref a1), .val (.int (1 : Int32)), .val (.int (9 : Int32)), .val (.int (10 : Int32))] [(.int (9 : Int32))])) _
  refine own_back (fun t k => XS.pop X447.here hx rfl (hb hby aai1_9_d33) rfl rfl k) ?_
  show OwnGo p e below (T447.setTop (mkF m 34 #[.val (.ref a1), .val (.int (1 : Int32)), .val (.int (9 : Int32)), .val (.int (10 : Int32))] [])) _
  refine own_back (fun t k => XS.goto X447.here hx rfl (pc0 := 34) (pc' := 48) rfl (hb hby aai1_9_d34) (by decide) (by decide) k) ?_
  show OwnGo p e below (T447.setTop (mkF m 48 #[.val (.ref a1), .val (.int (1 : Int32)), .val (.int (9 : Int32)), .val (.int (10 : Int32))] [])) _
  refine own_back (fun t k => XS.aloadN X447.here hx rfl (hb hby aai1_9_d48) rfl rfl k) ?_
  show OwnGo p e below (T447.setTop (mkF m 49 #[.val (.ref a1), .val (.int (1 : Int32)), .val (.int (9 : Int32)), .val (.int (10 : Int32))] [(.ref a1)])) _
  refine own_back (fun t k => XS.iloadN X447.here hx rfl (hb hby aai1_9_d49) rfl k) ?_
  show OwnGo p e below (T447.setTop (mkF m 50 #[.val (.ref a1), .val (.int (1 : Int32)), .val (.int (9 : Int32)), .val (.int (10 : Int32))] [(.int (10 : Int32)), (.ref a1)])) _
  obtain ⟨T456, h456, X456, e456, W456, st456⟩ := putF X447 hx hZ hown (host := "") (Or.inl (hw _ (List.mem_of_getElem? (i := 102) rfl))) Via.refl rfl f454 f451 (Or.inl (hw _ (List.mem_of_getElem? (i := 103) rfl))) (hw _ (List.mem_of_getElem? (i := 62) rfl)) (ty := .int) (by decide) rfl rfl (g := (mkF m 50 #[.val (.ref a1), .val (.int (1 : Int32)), .val (.int (9 : Int32)), .val (.int (10 : Int32))] [(.int (10 : Int32)), (.ref a1)])) rfl rfl (hb hby aai1_9_d50)
  have O457 := O448.wr W456 g0
  have KP458 := KP449.wr W456 (Or.inl (List.mem_of_getElem? (i := 0) rfl))
  have Zs459 := Nat.le_trans Zs450 (Keep.of_wr W456).1
  have f460 := f451.wr W456
  have f461 := f452.other W456 (Or.inr (slot_ne (Or.inl (hw _ (List.mem_of_getElem? (i := 78) rfl))) (Or.inl (hw _ (List.mem_of_getElem? (i := 103) rfl))) (by decide) (t := .byte) (t' := .int) (by decide) (by decide)))
  have f462 := f453.other W456 (Or.inr (slot_ne (Or.inl (hw _ (List.mem_of_getElem? (i := 76) rfl))) (Or.inl (hw _ (List.mem_of_getElem? (i := 103) rfl))) (by decide) (t := (.array .byte)) (t' := .int) (by decide) (by decide)))
  have f463 := f455.wr W456
  have f464 := V447.other W456 ne1
  have F465 := f454.same W456
  have N466 := Fr.snoc X456 N447 g0
  refine own_back st456 ?_
  show OwnGo p e below (T456.setTop (mkF m 53 #[.val (.ref a1), .val (.int (1 : Int32)), .val (.int (9 : Int32)), .val (.int (10 : Int32))] [])) _
  refine own_back (fun t k => XS.aloadN X456.here hx rfl (hb hby aai1_9_d53) rfl rfl k) ?_
  show OwnGo p e below (T456.setTop (mkF m 54 #[.val (.ref a1), .val (.int (1 : Int32)), .val (.int (9 : Int32)), .val (.int (10 : Int32))] [(.ref a1)])) _
  refine own_retA X456 hx Bd.notSynchronized Bd.returns rfl rfl (hb hby aai1_9_d54) e456 (Nat.le_of_ble_eq_true rfl) (Nat.le_of_ble_eq_true rfl) ?_
  exact ⟨rfl, N466, KP458, _, f460, f461, f462, F465, f464, f463, Nat.le_of_ble_eq_true rfl, Nat.le_of_ble_eq_true rfl⟩
theorem sai1_9_d0 : decode jdk_67_method_15_code 0 = .ok (.aload_n 0, 1) := by decide +kernel
theorem sai1_9_d1 : decode jdk_67_method_15_code 1 = .ok (.iload_n 1, 1) := by decide +kernel
theorem sai1_9_d2 : decode jdk_67_method_15_code 2 = .ok (.invokespecial 53, 3) := by decide +kernel
theorem sai1_9_d5 : decode jdk_67_method_15_code 5 = .ok (.pop, 1) := by decide +kernel
theorem sai1_9_d6 : decode jdk_67_method_15_code 6 = .ok (.aload_n 0, 1) := by decide +kernel
theorem sai1_9_d7 : decode jdk_67_method_15_code 7 = .ok (.areturn, 1) := by decide +kernel
theorem sai1_9_pn : plainName "java/lang/StringBuilder" = true := by first | (simp [plainName, overriddenIn]; done) | decide +kernel
theorem sai1_9_pd0 : parseMethodDescriptor "(I)Ljava/lang/AbstractStringBuilder;" = some ⟨[.int], some (.object "java/lang/AbstractStringBuilder")⟩ := by decide +kernel
theorem sai1_9_ef (m : MethodId) (x0 : Addr) (x1 : Int32) : entryFrame m #[(.ref x0), (.int x1)] 2 = mkF m 0 #[.val (.ref x0), .val (.int x1)] [] := by first | (simp [entryFrame, mkF, argsToLocals, Value.category]; done) | rfl
set_option maxRecDepth 65536 in
set_option maxHeartbeats 40000000 in
theorem rm_sai1_9 (l : Launch) (Z : State) (a0 : Array Value) (hw : ∀ d ∈ tables_1, d.before a0 Z = true) (ws : List Jvm.Cond) (a1 : Addr) (t1 : Addr) (x0 : Int32) (x1 : Int32) (x2 : Int32) (x3 : Int32) (x4 : Int32) (x5 : Int32) (x6 : Int32) (x7 : Int32) (x8 : Int32) (x9 : Int32) (wO : Addr) (wT : Addr) (kO : ClassId) (kT : ClassId) (cz : Int32) (h0 : Heap) (n0 : Nat) (Z0 : n0 ≤ h0.size) (OL : Old Z n0 h0) (B1 : OwnBd Z h0 a1 t1 [x0, x1, x2, x3, x4, x5, x6, x7, x8, x9] 9) (g0 : n0 ≤ a1) (g1 : n0 ≤ t1) (SO1 : Sta Z Z.heap "java/lang/Integer" "DigitOnes" "[B" (.ref wO)) (SO2 : Sta Z Z.heap "java/lang/Integer" "DigitTens" "[B" (.ref wT)) (AO1 : Arv Z Z.heap wO kO .byte (100 : Int32) own_ones (.int 0)) (AO2 : Arv Z Z.heap wT kT .byte (100 : Int32) own_tens (.int 0)) (SC : Sta Z Z.heap "java/lang/String" "COMPACT_STRINGS" "Z" (.int cz)) (hcz : ¬ cz = 0) :
    MetFree l (⟨"java/lang/StringBuilder", "append", "(I)Ljava/lang/StringBuilder;"⟩ : MethodName) (head1 (Jvm.Cond.code (⟨"java/lang/StringBuilder", "append", "(I)Ljava/lang/StringBuilder;"⟩ : MethodName) jdk_67_method_15_code 2 (some (.object "java/lang/StringBuilder")) :: ws) ({ frames := 2, cells := 0, slots := 0, locals := 44 } : Room)) (fun a U => a = #[(.ref a1), (.int (1 : Int32))] ∧ Z.Warmed39 U.vm ∧ U.heap = h0) (fun _ _ _ _ _ => True) (fun _ U o U' => OwnEnd U (fun v h L => v = some (.ref a1) ∧ Fr n0 L ∧ Keep h0 h [a1, t1] ∧ OwnBd Z h a1 t1 [x0, x1, x2, x3, x4, x5, x6, x7, x8, 49] 10) ({ frames := 2, cells := 0, slots := 0, locals := 44 } : Room).cells ({ frames := 2, cells := 0, slots := 0, locals := 44 } : Room).slots o U') := by
  refine MetFree.of_bodySF (plainFor_of_name sai1_9_pn) hisR ?_
  intro p e s m args below meth c s₁ Bd hml0 hP hK
  obtain ⟨rfl, hZ, hh⟩ := hP
  have hx := Bd.exec
  have hby := Bd.bytes
  have hml : c.maxLocals = 2 := hml0
  have hown : s.vm.findClass "java/lang/StringBuilder" = some m.cls := findClass_of_methodNamed Bd.named
  have hnm := (name_of_methodNamed Bd.named Bd.method).1
  have X0 : Stand p l e ({ frames := 2, cells := 0, slots := 0, locals := 44 } : Room) s m #[(.ref a1), (.int (1 : Int32))] below meth c s₁ [] 0 0 := Stand.of_body Bd
  have e0 : s₁.heap = h0 := by rw [← hh, Bd.state]; rfl
  have N0 := Fr.nil n0
  have KP0 := Keep.refl h0 [a1, t1]
  refine own_go (Q := (OwnEnd s (fun v h L => v = some (.ref a1) ∧ Fr n0 L ∧ Keep h0 h [a1, t1] ∧ OwnBd Z h a1 t1 [x0, x1, x2, x3, x4, x5, x6, x7, x8, 49] 10) ({ frames := 2, cells := 0, slots := 0, locals := 44 } : Room).cells ({ frames := 2, cells := 0, slots := 0, locals := 44 } : Room).slots)) ?_
  refine own_back (fun t k => castTop (sai1_9_ef m a1 (1 : Int32)) k) ?_
  show OwnGo p e below (s₁.setTop (mkF m 0 #[.val (.ref a1), .val (.int (1 : Int32))] [])) _
  obtain ⟨k1, E1, -⟩ := id B1
  refine own_back (fun t k => XS.aloadN X0.here hx rfl (hb hby sai1_9_d0) rfl rfl k) ?_
  show OwnGo p e below (s₁.setTop (mkF m 1 #[.val (.ref a1), .val (.int (1 : Int32))] [(.ref a1)])) _
  refine own_back (fun t k => XS.iloadN X0.here hx rfl (hb hby sai1_9_d1) rfl k) ?_
  show OwnGo p e below (s₁.setTop (mkF m 2 #[.val (.ref a1), .val (.int (1 : Int32))] [(.int (1 : Int32)), (.ref a1)])) _
  obtain ⟨_, _, ⟨T467, L467, k467, n467⟩, -, X467, ⟨Lc467, hQ467, l467, y467, z467⟩, st467⟩ := superBack X0 hx hZ (y := (⟨"java/lang/AbstractStringBuilder", "append", "(I)Ljava/lang/AbstractStringBuilder;"⟩ : MethodName)) hown (hw _ (List.mem_of_getElem? (i := 217) rfl)) (own_sameZ (hw _ (List.mem_of_getElem? (i := 219) rfl)) (own_decl (hw _ (List.mem_of_getElem? (i := 105) rfl)) (hw _ (List.mem_of_getElem? (i := 108) rfl))) (hw _ (List.mem_of_getElem? (i := 107) rfl)) rfl (by decide)) (hw _ (List.mem_of_getElem? (i := 218) rfl)) (hw _ (List.mem_of_getElem? (i := 86) rfl)) (by decide) (own_backN (W := 0) (rm_aai1_9 l Z a0 hw [] a1 t1 x0 x1 x2 x3 x4 x5 x6 x7 x8 x9 wO wT kO kT cz h0 n0 Z0 OL B1 g0 g1 SO1 SO2 AO1 AO2 SC hcz) hZ (hw _ (List.mem_of_getElem? (i := 220) rfl)) (hw _ (List.mem_of_getElem? (i := 71) rfl)) (by decide) (by decide)) e0 (Ins.self E1) (g := (mkF m 2 #[.val (.ref a1), .val (.int (1 : Int32))] [(.int (1 : Int32)), (.ref a1)])) rfl (by rw [hml]; rfl) (hw _ (List.mem_of_getElem? (i := 220) rfl)) (argsL := [(.int (1 : Int32))]) (rest := []) (lenOf sai1_9_pd0 rfl) rfl (by show 2 * 0 + _ ≤ _; exact Nat.le_of_eq rfl) (hb hby sai1_9_d2) (fun _ _ => ⟨rfl, e0, Nat.le_of_ble_eq_true rfl, Nat.le_of_ble_eq_true rfl⟩)
  dsimp only [Pt.U, Pt.locs, Pt.cells, Pt.slots] at X467 l467 y467 z467 st467 hQ467
  subst l467 y467 z467
  obtain ⟨rfl, N467q, K467, Q467⟩ := hQ467
  refine own_seq st467 ?_
  have N467 := Fr.app N0 N467q
  have O468 := OL.keep K467 (allS g0 (allS g1 all0))
  have KP469 := KP0.trans K467 (allS (Or.inl (List.mem_of_getElem? (i := 0) rfl)) (allS (Or.inl (List.mem_of_getElem? (i := 1) rfl)) all0))
  have Zs470 := Nat.le_trans Z0 K467.1
  show OwnGo p e below (T467.setTop (mkF m 5 #[.val (.ref a1), .val (.int (1 : Int32))] [(.ref a1)])) _
  refine own_back (fun t k => XS.pop X467.here hx rfl (hb hby sai1_9_d5) rfl rfl k) ?_
  show OwnGo p e below (T467.setTop (mkF m 6 #[.val (.ref a1), .val (.int (1 : Int32))] [])) _
  refine own_back (fun t k => XS.aloadN X467.here hx rfl (hb hby sai1_9_d6) rfl rfl k) ?_
  show OwnGo p e below (T467.setTop (mkF m 7 #[.val (.ref a1), .val (.int (1 : Int32))] [(.ref a1)])) _
  refine own_retA X467 hx Bd.notSynchronized Bd.returns rfl rfl (hb hby sai1_9_d7) rfl (Nat.le_of_ble_eq_true rfl) (Nat.le_of_ble_eq_true rfl) ?_
  exact ⟨rfl, N467, KP469, Q467⟩
theorem gv_d0 : decode jdk_68_method_64_code 0 = .ok (.aload_n 0, 1) := by decide +kernel
theorem gv_d1 : decode jdk_68_method_64_code 1 = .ok (.getfield 15, 3) := by decide +kernel
theorem gv_d4 : decode jdk_68_method_64_code 4 = .ok (.areturn, 1) := by decide +kernel
theorem gv_pn : plainName "java/lang/AbstractStringBuilder" = true := by first | (simp [plainName, overriddenIn]; done) | decide +kernel
theorem gv_ef (m : MethodId) (x0 : Addr) : entryFrame m #[(.ref x0)] 1 = mkF m 0 #[.val (.ref x0)] [] := by first | (simp [entryFrame, mkF, argsToLocals, Value.category]; done) | rfl
set_option maxRecDepth 65536 in
set_option maxHeartbeats 40000000 in
theorem rm_gv (l : Launch) (Z : State) (a0 : Array Value) (hw : ∀ d ∈ tables_1, d.before a0 Z = true) (ws : List Jvm.Cond) (a1 : Addr) (t1 : Addr) (h0 : Heap) (n0 : Nat) (Z0 : n0 ≤ h0.size) (F1 : Fld Z h0 a1 "java/lang/AbstractStringBuilder" "value" "[B" (.ref t1)) :
    MetFree l (⟨"java/lang/AbstractStringBuilder", "getValue", "()[B"⟩ : MethodName) (head1 (Jvm.Cond.code (⟨"java/lang/AbstractStringBuilder", "getValue", "()[B"⟩ : MethodName) jdk_68_method_64_code 1 (some (.array .byte)) :: ws) ({ frames := 0, cells := 0, slots := 0, locals := 0 } : Room)) (fun a U => a = #[(.ref a1)] ∧ Z.Warmed39 U.vm ∧ U.heap = h0) (fun _ _ _ _ _ => True) (fun _ U o U' => OwnEnd U (fun v h L => v = some (.ref t1) ∧ Fr n0 L ∧ h = h0) ({ frames := 0, cells := 0, slots := 0, locals := 0 } : Room).cells ({ frames := 0, cells := 0, slots := 0, locals := 0 } : Room).slots o U') := by
  refine MetFree.of_bodySF (plainFor_of_name gv_pn) hisR ?_
  intro p e s m args below meth c s₁ Bd hml0 hP hK
  obtain ⟨rfl, hZ, hh⟩ := hP
  have hx := Bd.exec
  have hby := Bd.bytes
  have hml : c.maxLocals = 1 := hml0
  have hown : s.vm.findClass "java/lang/AbstractStringBuilder" = some m.cls := findClass_of_methodNamed Bd.named
  have hnm := (name_of_methodNamed Bd.named Bd.method).1
  have X0 : Stand p l e ({ frames := 0, cells := 0, slots := 0, locals := 0 } : Room) s m #[(.ref a1)] below meth c s₁ [] 0 0 := Stand.of_body Bd
  have e0 : s₁.heap = h0 := by rw [← hh, Bd.state]; rfl
  have N0 := Fr.nil n0
  have KP0 := Keep.refl h0 []
  refine own_go (Q := (OwnEnd s (fun v h L => v = some (.ref t1) ∧ Fr n0 L ∧ h = h0) ({ frames := 0, cells := 0, slots := 0, locals := 0 } : Room).cells ({ frames := 0, cells := 0, slots := 0, locals := 0 } : Room).slots)) ?_
  refine own_back (fun t k => castTop (gv_ef m a1) k) ?_
  show OwnGo p e below (s₁.setTop (mkF m 0 #[.val (.ref a1)] [])) _
  refine own_back (fun t k => XS.aloadN X0.here hx rfl (hb hby gv_d0) rfl rfl k) ?_
  show OwnGo p e below (s₁.setTop (mkF m 1 #[.val (.ref a1)] [(.ref a1)])) _
  obtain ⟨T471, X471, e471, st471⟩ := getF X0 hx hZ hown (host := "") (Or.inl (hw _ (List.mem_of_getElem? (i := 75) rfl))) Via.refl e0 F1 (g := (mkF m 1 #[.val (.ref a1)] [(.ref a1)])) rfl rfl (hb hby gv_d1)
  refine own_back st471 ?_
  show OwnGo p e below (T471.setTop (mkF m 4 #[.val (.ref a1)] [(.ref t1)])) _
  refine own_retA X471 hx Bd.notSynchronized Bd.returns rfl rfl (hb hby gv_d4) e471 (Nat.le_of_ble_eq_true rfl) (Nat.le_of_ble_eq_true rfl) ?_
  exact ⟨rfl, N0, rfl⟩
theorem aln_d0 : decode jdk_68_method_6_code 0 = .ok (.aload_n 0, 1) := by decide +kernel
theorem aln_d1 : decode jdk_68_method_6_code 1 = .ok (.getfield 79, 3) := by decide +kernel
theorem aln_d4 : decode jdk_68_method_6_code 4 = .ok (.ireturn, 1) := by decide +kernel
theorem aln_pn : plainName "java/lang/AbstractStringBuilder" = true := by first | (simp [plainName, overriddenIn]; done) | decide +kernel
theorem aln_ef (m : MethodId) (x0 : Addr) : entryFrame m #[(.ref x0)] 1 = mkF m 0 #[.val (.ref x0)] [] := by first | (simp [entryFrame, mkF, argsToLocals, Value.category]; done) | rfl
set_option maxRecDepth 65536 in
set_option maxHeartbeats 40000000 in
theorem rm_aln (l : Launch) (Z : State) (a0 : Array Value) (hw : ∀ d ∈ tables_1, d.before a0 Z = true) (ws : List Jvm.Cond) (a1 : Addr) (x1 : Int32) (h0 : Heap) (n0 : Nat) (Z0 : n0 ≤ h0.size) (F1 : Fld Z h0 a1 "java/lang/AbstractStringBuilder" "count" "I" (.int x1)) :
    MetFree l (⟨"java/lang/AbstractStringBuilder", "length", "()I"⟩ : MethodName) (head1 (Jvm.Cond.code (⟨"java/lang/AbstractStringBuilder", "length", "()I"⟩ : MethodName) jdk_68_method_6_code 1 (some .int) :: ws) ({ frames := 0, cells := 0, slots := 0, locals := 0 } : Room)) (fun a U => a = #[(.ref a1)] ∧ Z.Warmed39 U.vm ∧ U.heap = h0) (fun _ _ _ _ _ => True) (fun _ U o U' => OwnEnd U (fun v h L => v = some (.int x1) ∧ Fr n0 L ∧ h = h0) ({ frames := 0, cells := 0, slots := 0, locals := 0 } : Room).cells ({ frames := 0, cells := 0, slots := 0, locals := 0 } : Room).slots o U') := by
  refine MetFree.of_bodySF (plainFor_of_name aln_pn) hisR ?_
  intro p e s m args below meth c s₁ Bd hml0 hP hK
  obtain ⟨rfl, hZ, hh⟩ := hP
  have hx := Bd.exec
  have hby := Bd.bytes
  have hml : c.maxLocals = 1 := hml0
  have hown : s.vm.findClass "java/lang/AbstractStringBuilder" = some m.cls := findClass_of_methodNamed Bd.named
  have hnm := (name_of_methodNamed Bd.named Bd.method).1
  have X0 : Stand p l e ({ frames := 0, cells := 0, slots := 0, locals := 0 } : Room) s m #[(.ref a1)] below meth c s₁ [] 0 0 := Stand.of_body Bd
  have e0 : s₁.heap = h0 := by rw [← hh, Bd.state]; rfl
  have N0 := Fr.nil n0
  have KP0 := Keep.refl h0 []
  refine own_go (Q := (OwnEnd s (fun v h L => v = some (.int x1) ∧ Fr n0 L ∧ h = h0) ({ frames := 0, cells := 0, slots := 0, locals := 0 } : Room).cells ({ frames := 0, cells := 0, slots := 0, locals := 0 } : Room).slots)) ?_
  refine own_back (fun t k => castTop (aln_ef m a1) k) ?_
  show OwnGo p e below (s₁.setTop (mkF m 0 #[.val (.ref a1)] [])) _
  refine own_back (fun t k => XS.aloadN X0.here hx rfl (hb hby aln_d0) rfl rfl k) ?_
  show OwnGo p e below (s₁.setTop (mkF m 1 #[.val (.ref a1)] [(.ref a1)])) _
  obtain ⟨T472, X472, e472, st472⟩ := getF X0 hx hZ hown (host := "") (Or.inl (hw _ (List.mem_of_getElem? (i := 102) rfl))) Via.refl e0 F1 (g := (mkF m 1 #[.val (.ref a1)] [(.ref a1)])) rfl rfl (hb hby aln_d1)
  refine own_back st472 ?_
  show OwnGo p e below (T472.setTop (mkF m 4 #[.val (.ref a1)] [(.int x1)])) _
  refine own_retI X472 hx Bd.notSynchronized Bd.returns (hb hby aln_d4) e472 (Nat.le_of_ble_eq_true rfl) (Nat.le_of_ble_eq_true rfl) ?_
  exact ⟨rfl, N0, rfl⟩
theorem sln_d0 : decode jdk_67_method_93_code 0 = .ok (.aload_n 0, 1) := by decide +kernel
theorem sln_d1 : decode jdk_67_method_93_code 1 = .ok (.invokespecial 343, 3) := by decide +kernel
theorem sln_d4 : decode jdk_67_method_93_code 4 = .ok (.ireturn, 1) := by decide +kernel
theorem sln_pn : plainName "java/lang/StringBuilder" = true := by first | (simp [plainName, overriddenIn]; done) | decide +kernel
theorem sln_pd0 : parseMethodDescriptor "()I" = some ⟨[], some .int⟩ := by decide +kernel
theorem sln_ef (m : MethodId) (x0 : Addr) : entryFrame m #[(.ref x0)] 1 = mkF m 0 #[.val (.ref x0)] [] := by first | (simp [entryFrame, mkF, argsToLocals, Value.category]; done) | rfl
set_option maxRecDepth 65536 in
set_option maxHeartbeats 40000000 in
theorem rm_sln (l : Launch) (Z : State) (a0 : Array Value) (hw : ∀ d ∈ tables_1, d.before a0 Z = true) (ws : List Jvm.Cond) (a1 : Addr) (x1 : Int32) (h0 : Heap) (n0 : Nat) (Z0 : n0 ≤ h0.size) (E1 : Exa Z h0 a1 "java/lang/StringBuilder") (F1 : Fld Z h0 a1 "java/lang/AbstractStringBuilder" "count" "I" (.int x1)) :
    MetFree l (⟨"java/lang/StringBuilder", "length", "()I"⟩ : MethodName) (head1 (Jvm.Cond.code (⟨"java/lang/StringBuilder", "length", "()I"⟩ : MethodName) jdk_67_method_93_code 1 (some .int) :: ws) ({ frames := 1, cells := 0, slots := 0, locals := 14 } : Room)) (fun a U => a = #[(.ref a1)] ∧ Z.Warmed39 U.vm ∧ U.heap = h0) (fun _ _ _ _ _ => True) (fun _ U o U' => OwnEnd U (fun v h L => v = some (.int x1) ∧ Fr n0 L ∧ h = h0) ({ frames := 1, cells := 0, slots := 0, locals := 14 } : Room).cells ({ frames := 1, cells := 0, slots := 0, locals := 14 } : Room).slots o U') := by
  refine MetFree.of_bodySF (plainFor_of_name sln_pn) hisR ?_
  intro p e s m args below meth c s₁ Bd hml0 hP hK
  obtain ⟨rfl, hZ, hh⟩ := hP
  have hx := Bd.exec
  have hby := Bd.bytes
  have hml : c.maxLocals = 1 := hml0
  have hown : s.vm.findClass "java/lang/StringBuilder" = some m.cls := findClass_of_methodNamed Bd.named
  have hnm := (name_of_methodNamed Bd.named Bd.method).1
  have X0 : Stand p l e ({ frames := 1, cells := 0, slots := 0, locals := 14 } : Room) s m #[(.ref a1)] below meth c s₁ [] 0 0 := Stand.of_body Bd
  have e0 : s₁.heap = h0 := by rw [← hh, Bd.state]; rfl
  have N0 := Fr.nil n0
  have KP0 := Keep.refl h0 []
  refine own_go (Q := (OwnEnd s (fun v h L => v = some (.int x1) ∧ Fr n0 L ∧ h = h0) ({ frames := 1, cells := 0, slots := 0, locals := 14 } : Room).cells ({ frames := 1, cells := 0, slots := 0, locals := 14 } : Room).slots)) ?_
  refine own_back (fun t k => castTop (sln_ef m a1) k) ?_
  show OwnGo p e below (s₁.setTop (mkF m 0 #[.val (.ref a1)] [])) _
  refine own_back (fun t k => XS.aloadN X0.here hx rfl (hb hby sln_d0) rfl rfl k) ?_
  show OwnGo p e below (s₁.setTop (mkF m 1 #[.val (.ref a1)] [(.ref a1)])) _
  obtain ⟨_, _, ⟨T473, L473, k473, n473⟩, -, X473, ⟨Lc473, hQ473, l473, y473, z473⟩, st473⟩ := superBack X0 hx hZ (y := (⟨"java/lang/AbstractStringBuilder", "length", "()I"⟩ : MethodName)) hown (hw _ (List.mem_of_getElem? (i := 262) rfl)) (own_sameZ (hw _ (List.mem_of_getElem? (i := 257) rfl)) (own_decl (hw _ (List.mem_of_getElem? (i := 105) rfl)) (hw _ (List.mem_of_getElem? (i := 108) rfl))) (hw _ (List.mem_of_getElem? (i := 107) rfl)) rfl (by decide)) (hw _ (List.mem_of_getElem? (i := 258) rfl)) (hw _ (List.mem_of_getElem? (i := 86) rfl)) (by decide) (own_backN (W := 0) (rm_aln l Z a0 hw [] a1 x1 h0 n0 Z0 F1) hZ (hw _ (List.mem_of_getElem? (i := 263) rfl)) (hw _ (List.mem_of_getElem? (i := 71) rfl)) (by decide) (by decide)) e0 (Ins.self E1) (g := (mkF m 1 #[.val (.ref a1)] [(.ref a1)])) rfl (by rw [hml]; rfl) (hw _ (List.mem_of_getElem? (i := 263) rfl)) (argsL := []) (rest := []) (lenOf sln_pd0 rfl) rfl (by show 2 * 0 + _ ≤ _; exact Nat.le_of_eq rfl) (hb hby sln_d1) (fun _ _ => ⟨rfl, e0, Nat.le_of_ble_eq_true rfl, Nat.le_of_ble_eq_true rfl⟩)
  dsimp only [Pt.U, Pt.locs, Pt.cells, Pt.slots] at X473 l473 y473 z473 st473 hQ473
  subst l473 y473 z473
  obtain ⟨rfl, N473q, hh473⟩ := hQ473
  refine own_seq st473 ?_
  have N473 := Fr.app N0 N473q
  show OwnGo p e below (T473.setTop (mkF m 4 #[.val (.ref a1)] [(.int x1)])) _
  refine own_retI X473 hx Bd.notSynchronized Bd.returns (hb hby sln_d4) hh473 (Nat.le_of_ble_eq_true rfl) (Nat.le_of_ble_eq_true rfl) ?_
  exact ⟨rfl, N473, rfl⟩
theorem cor10_d0 : decode jdk_65_method_132_code 0 = .ok (.iload_n 1, 1) := by decide +kernel
theorem cor10_d1 : decode jdk_65_method_132_code 1 = .ok (.ifCond .ne 9, 3) := by decide +kernel
theorem cor10_d4 : decode jdk_65_method_132_code 4 = .ok (.iload_n 2, 1) := by decide +kernel
theorem cor10_d5 : decode jdk_65_method_132_code 5 = .ok (.aload_n 0, 1) := by decide +kernel
theorem cor10_d6 : decode jdk_65_method_132_code 6 = .ok (.arraylength, 1) := by decide +kernel
theorem cor10_d7 : decode jdk_65_method_132_code 7 = .ok (.if_icmp .eq 10, 3) := by decide +kernel
theorem cor10_d17 : decode jdk_65_method_132_code 17 = .ok (.aload_n 0, 1) := by decide +kernel
theorem cor10_d18 : decode jdk_65_method_132_code 18 = .ok (.invokevirtual 310, 3) := by decide +kernel
theorem cor10_d21 : decode jdk_65_method_132_code 21 = .ok (.checkcast 311, 3) := by decide +kernel
theorem cor10_d24 : decode jdk_65_method_132_code 24 = .ok (.areturn, 1) := by decide +kernel
theorem cor10_pn : plainName "java/util/Arrays" = true := by first | (simp [plainName, overriddenIn]; done) | decide +kernel
theorem cor10_ef (m : MethodId) (x0 : Addr) (x1 : Int32) (x2 : Int32) : entryFrame m #[(.ref x0), (.int x1), (.int x2)] 3 = mkF m 0 #[.val (.ref x0), .val (.int x1), .val (.int x2)] [] := by first | (simp [entryFrame, mkF, argsToLocals, Value.category]; done) | rfl
set_option maxRecDepth 65536 in
set_option maxHeartbeats 40000000 in
theorem rm_cor10 (l : Launch) (Z : State) (a0 : Array Value) (hw : ∀ d ∈ tables_1, d.before a0 Z = true) (ws : List Jvm.Cond) (t1 : Addr) (k1 : ClassId) (x0 : Int32) (x1 : Int32) (x2 : Int32) (x3 : Int32) (x4 : Int32) (x5 : Int32) (x6 : Int32) (x7 : Int32) (x8 : Int32) (x9 : Int32) (h0 : Heap) (n0 : Nat) (Z0 : n0 ≤ h0.size) (OL : Old Z n0 h0) (V1 : Arv Z h0 t1 k1 .byte (10 : Int32) [.int x0, .int x1, .int x2, .int x3, .int x4, .int x5, .int x6, .int x7, .int x8, .int x9] (.int 0)) (X1 : Exa Z h0 t1 "[B") :
    MetFree l (⟨"java/util/Arrays", "copyOfRange", "([BII)[B"⟩ : MethodName) (head1 (Jvm.Cond.code (⟨"java/util/Arrays", "copyOfRange", "([BII)[B"⟩ : MethodName) jdk_65_method_132_code 3 (some (.array .byte)) :: ws) ({ frames := 2, cells := 1, slots := 16, locals := 80 } : Room)) (fun a U => a = #[(.ref t1), (.int (0 : Int32)), (.int (10 : Int32))] ∧ Z.Warmed39 U.vm ∧ U.heap = h0) (fun _ _ _ _ _ => True) (fun _ U o U' => OwnEnd U (fun v h L => ∃ b k, v = some (.ref b) ∧ Fr n0 L ∧ Ext h0 h ∧ n0 ≤ b ∧ h0.size ≤ b ∧ Arv Z h b k .byte (10 : Int32) [.int x0, .int x1, .int x2, .int x3, .int x4, .int x5, .int x6, .int x7, .int x8, .int x9] (.int 0)) ({ frames := 2, cells := 1, slots := 16, locals := 80 } : Room).cells ({ frames := 2, cells := 1, slots := 16, locals := 80 } : Room).slots o U') := by
  refine MetFree.of_bodySF (plainFor_of_name cor10_pn) hisR ?_
  intro p e s m args below meth c s₁ Bd hml0 hP hK
  obtain ⟨rfl, hZ, hh⟩ := hP
  have hx := Bd.exec
  have hby := Bd.bytes
  have hml : c.maxLocals = 3 := hml0
  have hown : s.vm.findClass "java/util/Arrays" = some m.cls := findClass_of_methodNamed Bd.named
  have hnm := (name_of_methodNamed Bd.named Bd.method).1
  have X0 : Stand p l e ({ frames := 2, cells := 1, slots := 16, locals := 80 } : Room) s m #[(.ref t1), (.int (0 : Int32)), (.int (10 : Int32))] below meth c s₁ [] 0 0 := Stand.of_body Bd
  have e0 : s₁.heap = h0 := by rw [← hh, Bd.state]; rfl
  have N0 := Fr.nil n0
  have KP0 := Keep.refl h0 []
  refine own_go (Q := (OwnEnd s (fun v h L => ∃ b k, v = some (.ref b) ∧ Fr n0 L ∧ Ext h0 h ∧ n0 ≤ b ∧ h0.size ≤ b ∧ Arv Z h b k .byte (10 : Int32) [.int x0, .int x1, .int x2, .int x3, .int x4, .int x5, .int x6, .int x7, .int x8, .int x9] (.int 0)) ({ frames := 2, cells := 1, slots := 16, locals := 80 } : Room).cells ({ frames := 2, cells := 1, slots := 16, locals := 80 } : Room).slots)) ?_
  refine own_back (fun t k => castTop (cor10_ef m t1 (0 : Int32) (10 : Int32)) k) ?_
  show OwnGo p e below (s₁.setTop (mkF m 0 #[.val (.ref t1), .val (.int (0 : Int32)), .val (.int (10 : Int32))] [])) _
  refine own_back (fun t k => XS.iloadN X0.here hx rfl (hb hby cor10_d0) rfl k) ?_
  show OwnGo p e below (s₁.setTop (mkF m 1 #[.val (.ref t1), .val (.int (0 : Int32)), .val (.int (10 : Int32))] [(.int (0 : Int32))])) _
  refine own_back (fun t k => XS.ifNo X0.here hx rfl (hb hby cor10_d1) rfl (Jvm.Free.XT.i0_ne_f (by decide)) k) ?_
  show OwnGo p e below (s₁.setTop (mkF m 4 #[.val (.ref t1), .val (.int (0 : Int32)), .val (.int (10 : Int32))] [])) _
  refine own_back (fun t k => XS.iloadN X0.here hx rfl (hb hby cor10_d4) rfl k) ?_
  show OwnGo p e below (s₁.setTop (mkF m 5 #[.val (.ref t1), .val (.int (0 : Int32)), .val (.int (10 : Int32))] [(.int (10 : Int32))])) _
  refine own_back (fun t k => XS.aloadN X0.here hx rfl (hb hby cor10_d5) rfl rfl k) ?_
  show OwnGo p e below (s₁.setTop (mkF m 6 #[.val (.ref t1), .val (.int (0 : Int32)), .val (.int (10 : Int32))] [(.ref t1), (.int (10 : Int32))])) _
  obtain ⟨c474, A474, q474, S474, M474, H474, U474⟩ := id V1
  refine own_back (fun t k => X0.arraylength hx (own_hat e0 A474.1) (State.isArrayOf_alike hZ.alike A474.2.1) (g := (mkF m 6 #[.val (.ref t1), .val (.int (0 : Int32)), .val (.int (10 : Int32))] [(.ref t1), (.int (10 : Int32))])) rfl rfl (hb hby cor10_d6) t k) ?_
  rw [len_of S474 M474]
  show OwnGo p e below (s₁.setTop (mkF m 7 #[.val (.ref t1), .val (.int (0 : Int32)), .val (.int (10 : Int32))] [(.int (10 : Int32)), (.int (10 : Int32))])) _
  refine own_back (fun t k => XS.icmpYes X0.here hx rfl (pc0 := 7) (pc' := 17) rfl (hb hby cor10_d7) rfl (Jvm.Free.XT.ii_eq_t (by decide)) (by decide) (by decide) k) ?_
  show OwnGo p e below (s₁.setTop (mkF m 17 #[.val (.ref t1), .val (.int (0 : Int32)), .val (.int (10 : Int32))] [])) _
  refine own_back (fun t k => XS.aloadN X0.here hx rfl (hb hby cor10_d17) rfl rfl k) ?_
  show OwnGo p e below (s₁.setTop (mkF m 18 #[.val (.ref t1), .val (.int (0 : Int32)), .val (.int (10 : Int32))] [(.ref t1)])) _
  obtain ⟨cv, Av, qv, Sv, Mv, Hv, Uv⟩ := id V1
  obtain ⟨T475, h475, X475, e475, E475, A475, EX475, st475⟩ := cloneA X0 hx hZ hown (hw _ (List.mem_of_getElem? (i := 269) rfl)) (hw _ (List.mem_of_getElem? (i := 270) rfl)) (hw _ (List.mem_of_getElem? (i := 274) rfl)) (hw _ (List.mem_of_getElem? (i := 272) rfl)) (hw _ (List.mem_of_getElem? (i := 273) rfl)) (hw _ (List.mem_of_getElem? (i := 275) rfl)) e0 Av X1 (own_fitB V1 Av.1) (g := (mkF m 18 #[.val (.ref t1), .val (.int (0 : Int32)), .val (.int (10 : Int32))] [(.ref t1)])) rfl (by rw [hml]; rfl) rfl (hb hby cor10_d18) (by decide) (W := 0) (cap := 10) (by show 2 * 0 + _ ≤ _; exact Nat.le_of_eq rfl) (by decide) (by rw [Sv]; decide) (Nat.le_of_ble_eq_true rfl) (Nat.le_of_ble_eq_true rfl)
  obtain ⟨b475, g475⟩ : ∃ z, z = h0.size := ⟨_, rfl⟩
  have ge476 : n0 ≤ b475 := Nat.le_trans Z0 (Nat.le_of_eq g475.symm)
  have sz477 : h0.size ≤ b475 := Nat.le_trans KP0.1 (Nat.le_of_eq g475.symm)
  rw [← g475] at A475 EX475 st475
  have O478 := OL.ext E475
  have KP479 := KP0.ext E475
  have Zs480 := Nat.le_trans Z0 E475.1
  have f481 := V1.ext E475
  have f482 := X1.ext E475
  have V483 : Arv Z h475 b475 k1 .byte (10 : Int32) [.int x0, .int x1, .int x2, .int x3, .int x4, .int x5, .int x6, .int x7, .int x8, .int x9] (.int 0) := ⟨_, A475, qv, Sv, Mv, Hv, Uv⟩
  refine own_back st475 ?_
  show OwnGo p e below (T475.setTop (mkF m 21 #[.val (.ref t1), .val (.int (0 : Int32)), .val (.int (10 : Int32))] [(.ref b475)])) _
  obtain ⟨T484, X484, e484, st484⟩ := castY X475 hx hZ hown (hw _ (List.mem_of_getElem? (i := 276) rfl)) e475 (Ins.self EX475) (g := (mkF m 21 #[.val (.ref t1), .val (.int (0 : Int32)), .val (.int (10 : Int32))] [(.ref b475)])) rfl rfl (hb hby cor10_d21)
  refine own_back st484 ?_
  show OwnGo p e below (T484.setTop (mkF m 24 #[.val (.ref t1), .val (.int (0 : Int32)), .val (.int (10 : Int32))] [(.ref b475)])) _
  refine own_retA X484 hx Bd.notSynchronized Bd.returns rfl rfl (hb hby cor10_d24) e484 (Nat.le_of_ble_eq_true rfl) (Nat.le_of_ble_eq_true rfl) ?_
  exact ⟨_, _, rfl, N0, own_ext KP479, ge476, sz477, V483⟩
theorem m1614_d0 : decode jdk_29_method_69_code 0 = .ok (.iload_n 0, 1) := by decide +kernel
theorem m1614_d1 : decode jdk_29_method_69_code 1 = .ok (.iload_n 1, 1) := by decide +kernel
theorem m1614_d2 : decode jdk_29_method_69_code 2 = .ok (.if_icmp .gt 7, 3) := by decide +kernel
theorem m1614_d9 : decode jdk_29_method_69_code 9 = .ok (.iload_n 1, 1) := by decide +kernel
theorem m1614_d10 : decode jdk_29_method_69_code 10 = .ok (.ireturn, 1) := by decide +kernel
theorem m1614_ef (m : MethodId) (x0 : Int32) (x1 : Int32) : entryFrame m #[(.int x0), (.int x1)] 2 = mkF m 0 #[.val (.int x0), .val (.int x1)] [] := by first | (simp [entryFrame, mkF, argsToLocals, Value.category]; done) | rfl
set_option maxRecDepth 65536 in
set_option maxHeartbeats 40000000 in
theorem rm_m1614 (l : Launch) (Z : State) (a0 : Array Value) (hw : ∀ d ∈ tables_1, d.before a0 Z = true) (ws : List Jvm.Cond)  (h0 : Heap) (n0 : Nat) (Z0 : n0 ≤ h0.size)  :
    MetFree l (⟨"java/lang/Math", "min", "(II)I"⟩ : MethodName) (head1 (Jvm.Cond.code (⟨"java/lang/Math", "min", "(II)I"⟩ : MethodName) jdk_29_method_69_code 2 (some .int) :: ws) ({ frames := 0, cells := 0, slots := 0, locals := 0 } : Room)) (fun a U => a = #[(.int (16 : Int32)), (.int (14 : Int32))] ∧ Z.Warmed39 U.vm ∧ U.heap = h0) (fun _ _ _ _ _ => True) (fun _ U o U' => OwnEnd U (fun v h L => v = some (.int (14 : Int32)) ∧ Fr n0 L ∧ h = h0) ({ frames := 0, cells := 0, slots := 0, locals := 0 } : Room).cells ({ frames := 0, cells := 0, slots := 0, locals := 0 } : Room).slots o U') := by
  refine MetFree.of_bodySF (Jvm.Free.JP.mathPlain rfl (by decide +kernel)) hisR ?_
  intro p e s m args below meth c s₁ Bd hml0 hP hK
  obtain ⟨rfl, hZ, hh⟩ := hP
  have hx := Bd.exec
  have hby := Bd.bytes
  have hml : c.maxLocals = 2 := hml0
  have hown : s.vm.findClass "java/lang/Math" = some m.cls := findClass_of_methodNamed Bd.named
  have hnm := (name_of_methodNamed Bd.named Bd.method).1
  have X0 : Stand p l e ({ frames := 0, cells := 0, slots := 0, locals := 0 } : Room) s m #[(.int (16 : Int32)), (.int (14 : Int32))] below meth c s₁ [] 0 0 := Stand.of_body Bd
  have e0 : s₁.heap = h0 := by rw [← hh, Bd.state]; rfl
  have N0 := Fr.nil n0
  have KP0 := Keep.refl h0 []
  refine own_go (Q := (OwnEnd s (fun v h L => v = some (.int (14 : Int32)) ∧ Fr n0 L ∧ h = h0) ({ frames := 0, cells := 0, slots := 0, locals := 0 } : Room).cells ({ frames := 0, cells := 0, slots := 0, locals := 0 } : Room).slots)) ?_
  refine own_back (fun t k => castTop (m1614_ef m (16 : Int32) (14 : Int32)) k) ?_
  show OwnGo p e below (s₁.setTop (mkF m 0 #[.val (.int (16 : Int32)), .val (.int (14 : Int32))] [])) _
  refine own_back (fun t k => XS.iloadN X0.here hx rfl (hb hby m1614_d0) rfl k) ?_
  show OwnGo p e below (s₁.setTop (mkF m 1 #[.val (.int (16 : Int32)), .val (.int (14 : Int32))] [(.int (16 : Int32))])) _
  refine own_back (fun t k => XS.iloadN X0.here hx rfl (hb hby m1614_d1) rfl k) ?_
  show OwnGo p e below (s₁.setTop (mkF m 2 #[.val (.int (16 : Int32)), .val (.int (14 : Int32))] [(.int (14 : Int32)), (.int (16 : Int32))])) _
  refine own_back (fun t k => XS.icmpYes X0.here hx rfl (pc0 := 2) (pc' := 9) rfl (hb hby m1614_d2) rfl (Jvm.Free.XT.ii_gt_t (by decide)) (by decide) (by decide) k) ?_
  show OwnGo p e below (s₁.setTop (mkF m 9 #[.val (.int (16 : Int32)), .val (.int (14 : Int32))] [])) _
  refine own_back (fun t k => XS.iloadN X0.here hx rfl (hb hby m1614_d9) rfl k) ?_
  show OwnGo p e below (s₁.setTop (mkF m 10 #[.val (.int (16 : Int32)), .val (.int (14 : Int32))] [(.int (14 : Int32))])) _
  refine own_retI X0 hx Bd.notSynchronized Bd.returns (hb hby m1614_d10) e0 (Nat.le_of_ble_eq_true rfl) (Nat.le_of_ble_eq_true rfl) ?_
  exact ⟨rfl, N0, rfl⟩
theorem ckl_d0 : decode jdk_65_method_131_code 0 = .ok (.iload_n 1, 1) := by decide +kernel
theorem ckl_d1 : decode jdk_65_method_131_code 1 = .ok (.iload_n 0, 1) := by decide +kernel
theorem ckl_d2 : decode jdk_65_method_131_code 2 = .ok (.if_icmp .ge 35, 3) := by decide +kernel
theorem ckl_d37 : decode jdk_65_method_131_code 37 = .ok (.return_, 1) := by decide +kernel
theorem ckl_pn : plainName "java/util/Arrays" = true := by first | (simp [plainName, overriddenIn]; done) | decide +kernel
theorem ckl_ef (m : MethodId) (x0 : Int32) (x1 : Int32) : entryFrame m #[(.int x0), (.int x1)] 2 = mkF m 0 #[.val (.int x0), .val (.int x1)] [] := by first | (simp [entryFrame, mkF, argsToLocals, Value.category]; done) | rfl
set_option maxRecDepth 65536 in
set_option maxHeartbeats 40000000 in
theorem rm_ckl (l : Launch) (Z : State) (a0 : Array Value) (hw : ∀ d ∈ tables_1, d.before a0 Z = true) (ws : List Jvm.Cond)  (h0 : Heap) (n0 : Nat) (Z0 : n0 ≤ h0.size)  :
    MetFree l (⟨"java/util/Arrays", "checkLength", "(II)V"⟩ : MethodName) (head1 (Jvm.Cond.code (⟨"java/util/Arrays", "checkLength", "(II)V"⟩ : MethodName) jdk_65_method_131_code 2 none :: ws) ({ frames := 0, cells := 0, slots := 0, locals := 0 } : Room)) (fun a U => a = #[(.int (0 : Int32)), (.int (14 : Int32))] ∧ Z.Warmed39 U.vm ∧ U.heap = h0) (fun _ _ _ _ _ => True) (fun _ U o U' => OwnEnd U (fun v h L => v = none ∧ Fr n0 L ∧ h = h0) ({ frames := 0, cells := 0, slots := 0, locals := 0 } : Room).cells ({ frames := 0, cells := 0, slots := 0, locals := 0 } : Room).slots o U') := by
  refine MetFree.of_bodySF (plainFor_of_name ckl_pn) hisR ?_
  intro p e s m args below meth c s₁ Bd hml0 hP hK
  obtain ⟨rfl, hZ, hh⟩ := hP
  have hx := Bd.exec
  have hby := Bd.bytes
  have hml : c.maxLocals = 2 := hml0
  have hown : s.vm.findClass "java/util/Arrays" = some m.cls := findClass_of_methodNamed Bd.named
  have hnm := (name_of_methodNamed Bd.named Bd.method).1
  have X0 : Stand p l e ({ frames := 0, cells := 0, slots := 0, locals := 0 } : Room) s m #[(.int (0 : Int32)), (.int (14 : Int32))] below meth c s₁ [] 0 0 := Stand.of_body Bd
  have e0 : s₁.heap = h0 := by rw [← hh, Bd.state]; rfl
  have N0 := Fr.nil n0
  have KP0 := Keep.refl h0 []
  refine own_go (Q := (OwnEnd s (fun v h L => v = none ∧ Fr n0 L ∧ h = h0) ({ frames := 0, cells := 0, slots := 0, locals := 0 } : Room).cells ({ frames := 0, cells := 0, slots := 0, locals := 0 } : Room).slots)) ?_
  refine own_back (fun t k => castTop (ckl_ef m (0 : Int32) (14 : Int32)) k) ?_
  show OwnGo p e below (s₁.setTop (mkF m 0 #[.val (.int (0 : Int32)), .val (.int (14 : Int32))] [])) _
  refine own_back (fun t k => XS.iloadN X0.here hx rfl (hb hby ckl_d0) rfl k) ?_
  show OwnGo p e below (s₁.setTop (mkF m 1 #[.val (.int (0 : Int32)), .val (.int (14 : Int32))] [(.int (14 : Int32))])) _
  refine own_back (fun t k => XS.iloadN X0.here hx rfl (hb hby ckl_d1) rfl k) ?_
  show OwnGo p e below (s₁.setTop (mkF m 2 #[.val (.int (0 : Int32)), .val (.int (14 : Int32))] [(.int (0 : Int32)), (.int (14 : Int32))])) _
  refine own_back (fun t k => XS.icmpYes X0.here hx rfl (pc0 := 2) (pc' := 37) rfl (hb hby ckl_d2) rfl (Jvm.Free.XT.ii_ge_t (by decide)) (by decide) (by decide) k) ?_
  show OwnGo p e below (s₁.setTop (mkF m 37 #[.val (.int (0 : Int32)), .val (.int (14 : Int32))] [])) _
  refine own_retV X0 hx Bd.notSynchronized Bd.returns (hb hby ckl_d37) e0 (Nat.le_of_ble_eq_true rfl) (Nat.le_of_ble_eq_true rfl) ?_
  exact ⟨rfl, N0, rfl⟩
theorem crb_d0 : decode jdk_65_method_133_code 0 = .ok (.iload_n 1, 1) := by decide +kernel
theorem crb_d1 : decode jdk_65_method_133_code 1 = .ok (.iload_n 2, 1) := by decide +kernel
theorem crb_d2 : decode jdk_65_method_133_code 2 = .ok (.invokestatic 343, 3) := by decide +kernel
theorem crb_d5 : decode jdk_65_method_133_code 5 = .ok (.iload_n 2, 1) := by decide +kernel
theorem crb_d6 : decode jdk_65_method_133_code 6 = .ok (.iload_n 1, 1) := by decide +kernel
theorem crb_d7 : decode jdk_65_method_133_code 7 = .ok (.isub, 1) := by decide +kernel
theorem crb_d8 : decode jdk_65_method_133_code 8 = .ok (.istore_n 3, 1) := by decide +kernel
theorem crb_d9 : decode jdk_65_method_133_code 9 = .ok (.iload_n 3, 1) := by decide +kernel
theorem crb_d10 : decode jdk_65_method_133_code 10 = .ok (.newarray .byte, 2) := by decide +kernel
theorem crb_d12 : decode jdk_65_method_133_code 12 = .ok (.astore 4, 2) := by decide +kernel
theorem crb_d14 : decode jdk_65_method_133_code 14 = .ok (.aload_n 0, 1) := by decide +kernel
theorem crb_d15 : decode jdk_65_method_133_code 15 = .ok (.iload_n 1, 1) := by decide +kernel
theorem crb_d16 : decode jdk_65_method_133_code 16 = .ok (.aload 4, 2) := by decide +kernel
theorem crb_d18 : decode jdk_65_method_133_code 18 = .ok (.iconst 0, 1) := by decide +kernel
theorem crb_d19 : decode jdk_65_method_133_code 19 = .ok (.aload_n 0, 1) := by decide +kernel
theorem crb_d20 : decode jdk_65_method_133_code 20 = .ok (.arraylength, 1) := by decide +kernel
theorem crb_d21 : decode jdk_65_method_133_code 21 = .ok (.iload_n 1, 1) := by decide +kernel
theorem crb_d22 : decode jdk_65_method_133_code 22 = .ok (.isub, 1) := by decide +kernel
theorem crb_d23 : decode jdk_65_method_133_code 23 = .ok (.iload_n 3, 1) := by decide +kernel
theorem crb_d24 : decode jdk_65_method_133_code 24 = .ok (.invokestatic 304, 3) := by decide +kernel
theorem crb_d27 : decode jdk_65_method_133_code 27 = .ok (.invokestatic 150, 3) := by decide +kernel
theorem crb_d30 : decode jdk_65_method_133_code 30 = .ok (.aload 4, 2) := by decide +kernel
theorem crb_d32 : decode jdk_65_method_133_code 32 = .ok (.areturn, 1) := by decide +kernel
theorem crb_pn : plainName "java/util/Arrays" = true := by first | (simp [plainName, overriddenIn]; done) | decide +kernel
theorem crb_pd0 : parseMethodDescriptor "(II)V" = some ⟨[.int, .int], none⟩ := by decide +kernel
theorem crb_pd1 : parseMethodDescriptor "(II)I" = some ⟨[.int, .int], some .int⟩ := by decide +kernel
theorem crb_ef (m : MethodId) (x0 : Addr) (x1 : Int32) (x2 : Int32) : entryFrame m #[(.ref x0), (.int x1), (.int x2)] 5 = mkF m 0 #[.val (.ref x0), .val (.int x1), .val (.int x2), .unset, .unset] [] := by first | (simp [entryFrame, mkF, argsToLocals, Value.category]; done) | rfl
set_option maxRecDepth 65536 in
set_option maxHeartbeats 40000000 in
theorem rm_crb (l : Launch) (Z : State) (a0 : Array Value) (hw : ∀ d ∈ tables_1, d.before a0 Z = true) (ws : List Jvm.Cond) (t1 : Addr) (k1 : ClassId) (x0 : Int32) (x1 : Int32) (x2 : Int32) (x3 : Int32) (x4 : Int32) (x5 : Int32) (x6 : Int32) (x7 : Int32) (x8 : Int32) (x9 : Int32) (x10 : Int32) (x11 : Int32) (x12 : Int32) (x13 : Int32) (x14 : Int32) (x15 : Int32) (h0 : Heap) (n0 : Nat) (Z0 : n0 ≤ h0.size) (OL : Old Z n0 h0) (V1 : Arv Z h0 t1 k1 .byte (16 : Int32) [.int x0, .int x1, .int x2, .int x3, .int x4, .int x5, .int x6, .int x7, .int x8, .int x9, .int x10, .int x11, .int x12, .int x13, .int x14, .int x15] (.int 0)) (X1 : Exa Z h0 t1 "[B") :
    MetFree l (⟨"java/util/Arrays", "copyOfRangeByte", "([BII)[B"⟩ : MethodName) (head1 (Jvm.Cond.code (⟨"java/util/Arrays", "copyOfRangeByte", "([BII)[B"⟩ : MethodName) jdk_65_method_133_code 5 (some (.array .byte)) :: ws) ({ frames := 1, cells := 1, slots := 16, locals := 60 } : Room)) (fun a U => a = #[(.ref t1), (.int (0 : Int32)), (.int (14 : Int32))] ∧ Z.Warmed39 U.vm ∧ U.heap = h0) (fun _ _ _ _ _ => True) (fun _ U o U' => OwnEnd U (fun v h L => ∃ b k, v = some (.ref b) ∧ Fr n0 L ∧ Ext h0 h ∧ n0 ≤ b ∧ h0.size ≤ b ∧ Arv Z h b k .byte (14 : Int32) [.int x0, .int x1, .int x2, .int x3, .int x4, .int x5, .int x6, .int x7, .int x8, .int x9, .int x10, .int x11, .int x12, .int x13] (.int 0)) ({ frames := 1, cells := 1, slots := 16, locals := 60 } : Room).cells ({ frames := 1, cells := 1, slots := 16, locals := 60 } : Room).slots o U') := by
  refine MetFree.of_bodySF (plainFor_of_name crb_pn) hisR ?_
  intro p e s m args below meth c s₁ Bd hml0 hP hK
  obtain ⟨rfl, hZ, hh⟩ := hP
  have hx := Bd.exec
  have hby := Bd.bytes
  have hml : c.maxLocals = 5 := hml0
  have hown : s.vm.findClass "java/util/Arrays" = some m.cls := findClass_of_methodNamed Bd.named
  have hnm := (name_of_methodNamed Bd.named Bd.method).1
  have X0 : Stand p l e ({ frames := 1, cells := 1, slots := 16, locals := 60 } : Room) s m #[(.ref t1), (.int (0 : Int32)), (.int (14 : Int32))] below meth c s₁ [] 0 0 := Stand.of_body Bd
  have e0 : s₁.heap = h0 := by rw [← hh, Bd.state]; rfl
  have N0 := Fr.nil n0
  have KP0 := Keep.refl h0 []
  refine own_go (Q := (OwnEnd s (fun v h L => ∃ b k, v = some (.ref b) ∧ Fr n0 L ∧ Ext h0 h ∧ n0 ≤ b ∧ h0.size ≤ b ∧ Arv Z h b k .byte (14 : Int32) [.int x0, .int x1, .int x2, .int x3, .int x4, .int x5, .int x6, .int x7, .int x8, .int x9, .int x10, .int x11, .int x12, .int x13] (.int 0)) ({ frames := 1, cells := 1, slots := 16, locals := 60 } : Room).cells ({ frames := 1, cells := 1, slots := 16, locals := 60 } : Room).slots)) ?_
  refine own_back (fun t k => castTop (crb_ef m t1 (0 : Int32) (14 : Int32)) k) ?_
  show OwnGo p e below (s₁.setTop (mkF m 0 #[.val (.ref t1), .val (.int (0 : Int32)), .val (.int (14 : Int32)), .unset, .unset] [])) _
  refine own_back (fun t k => XS.iloadN X0.here hx rfl (hb hby crb_d0) rfl k) ?_
  show OwnGo p e below (s₁.setTop (mkF m 1 #[.val (.ref t1), .val (.int (0 : Int32)), .val (.int (14 : Int32)), .unset, .unset] [(.int (0 : Int32))])) _
  refine own_back (fun t k => XS.iloadN X0.here hx rfl (hb hby crb_d1) rfl k) ?_
  show OwnGo p e below (s₁.setTop (mkF m 2 #[.val (.ref t1), .val (.int (0 : Int32)), .val (.int (14 : Int32)), .unset, .unset] [(.int (14 : Int32)), (.int (0 : Int32))])) _
  obtain ⟨_, _, ⟨T485, L485, k485, n485⟩, -, X485, ⟨Lc485, hQ485, l485, y485, z485⟩, st485⟩ := Jvm.LawKit.callS X0 hx (y := (⟨"java/util/Arrays", "checkLength", "(II)V"⟩ : MethodName)) hown (mvT hZ (hw _ (List.mem_of_getElem? (i := 282) rfl))) (mvT hZ (hw _ (List.mem_of_getElem? (i := 283) rfl))) (mvT hZ (hw _ (List.mem_of_getElem? (i := 267) rfl))) (mvT hZ (hw _ (List.mem_of_getElem? (i := 284) rfl))) (by decide) (own_backN (W := 0) (rm_ckl l Z a0 hw [] h0 n0 Z0) hZ (hw _ (List.mem_of_getElem? (i := 284) rfl)) (hw _ (List.mem_of_getElem? (i := 267) rfl)) (by decide) (by decide)) (g := (mkF m 2 #[.val (.ref t1), .val (.int (0 : Int32)), .val (.int (14 : Int32)), .unset, .unset] [(.int (14 : Int32)), (.int (0 : Int32))])) rfl (by rw [hml]; rfl) (argsL := [(.int (0 : Int32)), (.int (14 : Int32))]) (rest := []) (lenOf crb_pd0 rfl) rfl (by show 2 * 0 + _ ≤ _; exact Nat.le_of_eq rfl) (hb hby crb_d2) (fun _ _ => ⟨rfl, e0, Nat.le_of_ble_eq_true rfl, Nat.le_of_ble_eq_true rfl⟩)
  dsimp only [Pt.U, Pt.locs, Pt.cells, Pt.slots] at X485 l485 y485 z485 st485 hQ485
  subst l485 y485 z485
  obtain ⟨rfl, N485q, hh485⟩ := hQ485
  refine own_back st485 ?_
  have N485 := Fr.app N0 N485q
  show OwnGo p e below (T485.setTop (mkF m 5 #[.val (.ref t1), .val (.int (0 : Int32)), .val (.int (14 : Int32)), .unset, .unset] [])) _
  refine own_back (fun t k => XS.iloadN X485.here hx rfl (hb hby crb_d5) rfl k) ?_
  show OwnGo p e below (T485.setTop (mkF m 6 #[.val (.ref t1), .val (.int (0 : Int32)), .val (.int (14 : Int32)), .unset, .unset] [(.int (14 : Int32))])) _
  refine own_back (fun t k => XS.iloadN X485.here hx rfl (hb hby crb_d6) rfl k) ?_
  show OwnGo p e below (T485.setTop (mkF m 7 #[.val (.ref t1), .val (.int (0 : Int32)), .val (.int (14 : Int32)), .unset, .unset] [(.int (0 : Int32)), (.int (14 : Int32))])) _
  refine own_back (fun t k => XS.isub X485.here hx rfl (hb hby crb_d7) rfl k) ?_
  show OwnGo p e below (T485.setTop (mkF m 8 #[.val (.ref t1), .val (.int (0 : Int32)), .val (.int (14 : Int32)), .unset, .unset] [(.int ((14 : Int32) - (0 : Int32)))])) _
  rw [show ((14 : Int32) - (0 : Int32)) = (14 : Int32) from by decide]
  show OwnGo p e below (T485.setTop (mkF m 8 #[.val (.ref t1), .val (.int (0 : Int32)), .val (.int (14 : Int32)), .unset, .unset] [(.int (14 : Int32))])) _
  refine own_back (fun t k => XS.istoreN X485.here hx rfl (hb hby crb_d8) rfl (l' := #[.val (.ref t1), .val (.int (0 : Int32)), .val (.int (14 : Int32)), .val (.int (14 : Int32)), .unset]) rfl k) ?_
  show OwnGo p e below (T485.setTop (mkF m 9 #[.val (.ref t1), .val (.int (0 : Int32)), .val (.int (14 : Int32)), .val (.int (14 : Int32)), .unset] [])) _
  refine own_back (fun t k => XS.iloadN X485.here hx rfl (hb hby crb_d9) rfl k) ?_
  show OwnGo p e below (T485.setTop (mkF m 10 #[.val (.ref t1), .val (.int (0 : Int32)), .val (.int (14 : Int32)), .val (.int (14 : Int32)), .unset] [(.int (14 : Int32))])) _
  obtain ⟨T486, h486, k486, X486, e486, E486, A486, st486⟩ := newP X485 hx hZ (hw _ (List.mem_of_getElem? (i := 12) rfl)) hh485 (g := (mkF m 10 #[.val (.ref t1), .val (.int (0 : Int32)), .val (.int (14 : Int32)), .val (.int (14 : Int32)), .unset] [(.int (14 : Int32))])) rfl (hb hby crb_d10) rfl (by decide) (cap := 14) (by decide) (by decide) (Nat.le_of_ble_eq_true rfl) (Nat.le_of_ble_eq_true rfl)
  obtain ⟨b486, g486⟩ : ∃ z, z = h0.size := ⟨_, rfl⟩
  have ge487 : n0 ≤ b486 := Nat.le_trans Z0 (Nat.le_of_eq g486.symm)
  have sz488 : h0.size ≤ b486 := Nat.le_trans KP0.1 (Nat.le_of_eq g486.symm)
  rw [← g486] at A486 st486
  have O489 := OL.ext E486
  have KP490 := KP0.ext E486
  have Zs491 := Nat.le_trans Z0 E486.1
  have f492 := V1.ext E486
  have f493 := X1.ext E486
  have V494 : Arv Z h486 b486 k486 .byte (14 : Int32) [(.int (0 : Int32)), (.int (0 : Int32)), (.int (0 : Int32)), (.int (0 : Int32)), (.int (0 : Int32)), (.int (0 : Int32)), (.int (0 : Int32)), (.int (0 : Int32)), (.int (0 : Int32)), (.int (0 : Int32)), (.int (0 : Int32)), (.int (0 : Int32)), (.int (0 : Int32)), (.int (0 : Int32))] (.int (0 : Int32)) := (Arv.new A486 (by decide)).pad (pad_rep [] (.int (0 : Int32)) 14)
  refine own_back st486 ?_
  show OwnGo p e below (T486.setTop (mkF m 12 #[.val (.ref t1), .val (.int (0 : Int32)), .val (.int (14 : Int32)), .val (.int (14 : Int32)), .unset] [(.ref b486)])) _
  refine own_back (fun t k => XS.astore X486.here hx rfl (hb hby crb_d12) rfl rfl (l' := #[.val (.ref t1), .val (.int (0 : Int32)), .val (.int (14 : Int32)), .val (.int (14 : Int32)), .val (.ref b486)]) rfl k) ?_
  show OwnGo p e below (T486.setTop (mkF m 14 #[.val (.ref t1), .val (.int (0 : Int32)), .val (.int (14 : Int32)), .val (.int (14 : Int32)), .val (.ref b486)] [])) _
  refine own_back (fun t k => XS.aloadN X486.here hx rfl (hb hby crb_d14) rfl rfl k) ?_
  show OwnGo p e below (T486.setTop (mkF m 15 #[.val (.ref t1), .val (.int (0 : Int32)), .val (.int (14 : Int32)), .val (.int (14 : Int32)), .val (.ref b486)] [(.ref t1)])) _
  refine own_back (fun t k => XS.iloadN X486.here hx rfl (hb hby crb_d15) rfl k) ?_
  show OwnGo p e below (T486.setTop (mkF m 16 #[.val (.ref t1), .val (.int (0 : Int32)), .val (.int (14 : Int32)), .val (.int (14 : Int32)), .val (.ref b486)] [(.int (0 : Int32)), (.ref t1)])) _
  refine own_back (fun t k => XS.aload X486.here hx rfl (hb hby crb_d16) rfl rfl k) ?_
  show OwnGo p e below (T486.setTop (mkF m 18 #[.val (.ref t1), .val (.int (0 : Int32)), .val (.int (14 : Int32)), .val (.int (14 : Int32)), .val (.ref b486)] [(.ref b486), (.int (0 : Int32)), (.ref t1)])) _
  refine own_back (fun t k => XS.iconst X486.here hx rfl (hb hby crb_d18) k) ?_
  show OwnGo p e below (T486.setTop (mkF m 19 #[.val (.ref t1), .val (.int (0 : Int32)), .val (.int (14 : Int32)), .val (.int (14 : Int32)), .val (.ref b486)] [(.int (0 : Int32)), (.ref b486), (.int (0 : Int32)), (.ref t1)])) _
  refine own_back (fun t k => XS.aloadN X486.here hx rfl (hb hby crb_d19) rfl rfl k) ?_
  show OwnGo p e below (T486.setTop (mkF m 20 #[.val (.ref t1), .val (.int (0 : Int32)), .val (.int (14 : Int32)), .val (.int (14 : Int32)), .val (.ref b486)] [(.ref t1), (.int (0 : Int32)), (.ref b486), (.int (0 : Int32)), (.ref t1)])) _
  obtain ⟨c495, A495, q495, S495, M495, H495, U495⟩ := id f492
  refine own_back (fun t k => X486.arraylength hx (own_hat e486 A495.1) (State.isArrayOf_alike hZ.alike A495.2.1) (g := (mkF m 20 #[.val (.ref t1), .val (.int (0 : Int32)), .val (.int (14 : Int32)), .val (.int (14 : Int32)), .val (.ref b486)] [(.ref t1), (.int (0 : Int32)), (.ref b486), (.int (0 : Int32)), (.ref t1)])) rfl rfl (hb hby crb_d20) t k) ?_
  rw [len_of S495 M495]
  show OwnGo p e below (T486.setTop (mkF m 21 #[.val (.ref t1), .val (.int (0 : Int32)), .val (.int (14 : Int32)), .val (.int (14 : Int32)), .val (.ref b486)] [(.int (16 : Int32)), (.int (0 : Int32)), (.ref b486), (.int (0 : Int32)), (.ref t1)])) _
  refine own_back (fun t k => XS.iloadN X486.here hx rfl (hb hby crb_d21) rfl k) ?_
  show OwnGo p e below (T486.setTop (mkF m 22 #[.val (.ref t1), .val (.int (0 : Int32)), .val (.int (14 : Int32)), .val (.int (14 : Int32)), .val (.ref b486)] [(.int (0 : Int32)), (.int (16 : Int32)), (.int (0 : Int32)), (.ref b486), (.int (0 : Int32)), (.ref t1)])) _
  refine own_back (fun t k => XS.isub X486.here hx rfl (hb hby crb_d22) rfl k) ?_
  show OwnGo p e below (T486.setTop (mkF m 23 #[.val (.ref t1), .val (.int (0 : Int32)), .val (.int (14 : Int32)), .val (.int (14 : Int32)), .val (.ref b486)] [(.int ((16 : Int32) - (0 : Int32))), (.int (0 : Int32)), (.ref b486), (.int (0 : Int32)), (.ref t1)])) _
  rw [show ((16 : Int32) - (0 : Int32)) = (16 : Int32) from by decide]
  show OwnGo p e below (T486.setTop (mkF m 23 #[.val (.ref t1), .val (.int (0 : Int32)), .val (.int (14 : Int32)), .val (.int (14 : Int32)), .val (.ref b486)] [(.int (16 : Int32)), (.int (0 : Int32)), (.ref b486), (.int (0 : Int32)), (.ref t1)])) _
  refine own_back (fun t k => XS.iloadN X486.here hx rfl (hb hby crb_d23) rfl k) ?_
  show OwnGo p e below (T486.setTop (mkF m 24 #[.val (.ref t1), .val (.int (0 : Int32)), .val (.int (14 : Int32)), .val (.int (14 : Int32)), .val (.ref b486)] [(.int (14 : Int32)), (.int (16 : Int32)), (.int (0 : Int32)), (.ref b486), (.int (0 : Int32)), (.ref t1)])) _
  obtain ⟨_, _, ⟨T496, L496, k496, n496⟩, -, X496, ⟨Lc496, hQ496, l496, y496, z496⟩, st496⟩ := Jvm.LawKit.callS X486 hx (y := (⟨"java/lang/Math", "min", "(II)I"⟩ : MethodName)) hown (mvT hZ (hw _ (List.mem_of_getElem? (i := 285) rfl))) (mvT hZ (hw _ (List.mem_of_getElem? (i := 286) rfl))) (mvT hZ (hw _ (List.mem_of_getElem? (i := 205) rfl))) (mvT hZ (hw _ (List.mem_of_getElem? (i := 287) rfl))) (by decide) (own_backN (W := 4) (rm_m1614 l Z a0 hw [] h486 n0 Zs491) hZ (hw _ (List.mem_of_getElem? (i := 287) rfl)) (hw _ (List.mem_of_getElem? (i := 205) rfl)) (by decide) (by decide)) (g := (mkF m 24 #[.val (.ref t1), .val (.int (0 : Int32)), .val (.int (14 : Int32)), .val (.int (14 : Int32)), .val (.ref b486)] [(.int (14 : Int32)), (.int (16 : Int32)), (.int (0 : Int32)), (.ref b486), (.int (0 : Int32)), (.ref t1)])) rfl (by rw [hml]; rfl) (argsL := [(.int (16 : Int32)), (.int (14 : Int32))]) (rest := [(.int (0 : Int32)), (.ref b486), (.int (0 : Int32)), (.ref t1)]) (lenOf crb_pd1 rfl) rfl (by show 2 * 0 + _ ≤ _; exact Nat.le_of_eq rfl) (hb hby crb_d24) (fun _ _ => ⟨rfl, e486, Nat.le_of_ble_eq_true rfl, Nat.le_of_ble_eq_true rfl⟩)
  dsimp only [Pt.U, Pt.locs, Pt.cells, Pt.slots] at X496 l496 y496 z496 st496 hQ496
  subst l496 y496 z496
  obtain ⟨rfl, N496q, hh496⟩ := hQ496
  refine own_back st496 ?_
  have N496 := Fr.app N485 N496q
  show OwnGo p e below (T496.setTop (mkF m 27 #[.val (.ref t1), .val (.int (0 : Int32)), .val (.int (14 : Int32)), .val (.int (14 : Int32)), .val (.ref b486)] [(.int (14 : Int32)), (.int (0 : Int32)), (.ref b486), (.int (0 : Int32)), (.ref t1)])) _
  obtain ⟨T497, h497, Lq497, X497, e497, N497, K497, V497, st497⟩ := cpA X496 hx hZ hown (hw _ (List.mem_of_getElem? (i := 288) rfl)) (hw _ (List.mem_of_getElem? (i := 128) rfl)) (hw _ (List.mem_of_getElem? (i := 126) rfl)) (hw _ (List.mem_of_getElem? (i := 127) rfl)) hh496 f492 V494 (Or.inl ⟨rfl, rfl⟩) (by decide) (by decide) (by decide) (by decide) (by decide) rfl (by decide) N496 ge487 (g := (mkF m 27 #[.val (.ref t1), .val (.int (0 : Int32)), .val (.int (14 : Int32)), .val (.int (14 : Int32)), .val (.ref b486)] [(.int (14 : Int32)), (.int (0 : Int32)), (.ref b486), (.int (0 : Int32)), (.ref t1)])) rfl (by rw [hml]; rfl) (rest := []) rfl (hb hby crb_d27) (by decide) (W := 0) (by show 2 * 0 + _ ≤ _; exact Nat.le_of_eq rfl) (by decide)
  refine own_back st497 ?_
  have O498 := O489.keep K497 (allS ge487 all0)
  have KP499 := KP490.trans K497 (allS (Or.inr sz488) all0)
  have Zs500 := Nat.le_trans Zs491 K497.1
  have V501 : Arv Z h497 b486 k486 .byte (14 : Int32) [.int x0, .int x1, .int x2, .int x3, .int x4, .int x5, .int x6, .int x7, .int x8, .int x9, .int x10, .int x11, .int x12, .int x13] (.int 0) := V497
  show OwnGo p e below (T497.setTop (mkF m 30 #[.val (.ref t1), .val (.int (0 : Int32)), .val (.int (14 : Int32)), .val (.int (14 : Int32)), .val (.ref b486)] [])) _
  refine own_back (fun t k => XS.aload X497.here hx rfl (hb hby crb_d30) rfl rfl k) ?_
  show OwnGo p e below (T497.setTop (mkF m 32 #[.val (.ref t1), .val (.int (0 : Int32)), .val (.int (14 : Int32)), .val (.int (14 : Int32)), .val (.ref b486)] [(.ref b486)])) _
  refine own_retA X497 hx Bd.notSynchronized Bd.returns rfl rfl (hb hby crb_d32) e497 (Nat.le_of_ble_eq_true rfl) (Nat.le_of_ble_eq_true rfl) ?_
  exact ⟨b486, _, rfl, N497, own_ext KP499, ge487, sz488, V501⟩
theorem cor14_d0 : decode jdk_65_method_132_code 0 = .ok (.iload_n 1, 1) := by decide +kernel
theorem cor14_d1 : decode jdk_65_method_132_code 1 = .ok (.ifCond .ne 9, 3) := by decide +kernel
theorem cor14_d4 : decode jdk_65_method_132_code 4 = .ok (.iload_n 2, 1) := by decide +kernel
theorem cor14_d5 : decode jdk_65_method_132_code 5 = .ok (.aload_n 0, 1) := by decide +kernel
theorem cor14_d6 : decode jdk_65_method_132_code 6 = .ok (.arraylength, 1) := by decide +kernel
theorem cor14_d7 : decode jdk_65_method_132_code 7 = .ok (.if_icmp .eq 10, 3) := by decide +kernel
theorem cor14_d10 : decode jdk_65_method_132_code 10 = .ok (.aload_n 0, 1) := by decide +kernel
theorem cor14_d11 : decode jdk_65_method_132_code 11 = .ok (.iload_n 1, 1) := by decide +kernel
theorem cor14_d12 : decode jdk_65_method_132_code 12 = .ok (.iload_n 2, 1) := by decide +kernel
theorem cor14_d13 : decode jdk_65_method_132_code 13 = .ok (.invokestatic 339, 3) := by decide +kernel
theorem cor14_d16 : decode jdk_65_method_132_code 16 = .ok (.areturn, 1) := by decide +kernel
theorem cor14_pn : plainName "java/util/Arrays" = true := by first | (simp [plainName, overriddenIn]; done) | decide +kernel
theorem cor14_pd0 : parseMethodDescriptor "([BII)[B" = some ⟨[(.array .byte), .int, .int], some (.array .byte)⟩ := by decide +kernel
theorem cor14_ef (m : MethodId) (x0 : Addr) (x1 : Int32) (x2 : Int32) : entryFrame m #[(.ref x0), (.int x1), (.int x2)] 3 = mkF m 0 #[.val (.ref x0), .val (.int x1), .val (.int x2)] [] := by first | (simp [entryFrame, mkF, argsToLocals, Value.category]; done) | rfl
set_option maxRecDepth 65536 in
set_option maxHeartbeats 40000000 in
theorem rm_cor14 (l : Launch) (Z : State) (a0 : Array Value) (hw : ∀ d ∈ tables_1, d.before a0 Z = true) (ws : List Jvm.Cond) (t1 : Addr) (k1 : ClassId) (x0 : Int32) (x1 : Int32) (x2 : Int32) (x3 : Int32) (x4 : Int32) (x5 : Int32) (x6 : Int32) (x7 : Int32) (x8 : Int32) (x9 : Int32) (x10 : Int32) (x11 : Int32) (x12 : Int32) (x13 : Int32) (x14 : Int32) (x15 : Int32) (h0 : Heap) (n0 : Nat) (Z0 : n0 ≤ h0.size) (OL : Old Z n0 h0) (V1 : Arv Z h0 t1 k1 .byte (16 : Int32) [.int x0, .int x1, .int x2, .int x3, .int x4, .int x5, .int x6, .int x7, .int x8, .int x9, .int x10, .int x11, .int x12, .int x13, .int x14, .int x15] (.int 0)) (X1 : Exa Z h0 t1 "[B") :
    MetFree l (⟨"java/util/Arrays", "copyOfRange", "([BII)[B"⟩ : MethodName) (head1 (Jvm.Cond.code (⟨"java/util/Arrays", "copyOfRange", "([BII)[B"⟩ : MethodName) jdk_65_method_132_code 3 (some (.array .byte)) :: ws) ({ frames := 2, cells := 1, slots := 16, locals := 80 } : Room)) (fun a U => a = #[(.ref t1), (.int (0 : Int32)), (.int (14 : Int32))] ∧ Z.Warmed39 U.vm ∧ U.heap = h0) (fun _ _ _ _ _ => True) (fun _ U o U' => OwnEnd U (fun v h L => ∃ b k, v = some (.ref b) ∧ Fr n0 L ∧ Ext h0 h ∧ n0 ≤ b ∧ h0.size ≤ b ∧ Arv Z h b k .byte (14 : Int32) [.int x0, .int x1, .int x2, .int x3, .int x4, .int x5, .int x6, .int x7, .int x8, .int x9, .int x10, .int x11, .int x12, .int x13] (.int 0)) ({ frames := 2, cells := 1, slots := 16, locals := 80 } : Room).cells ({ frames := 2, cells := 1, slots := 16, locals := 80 } : Room).slots o U') := by
  refine MetFree.of_bodySF (plainFor_of_name cor14_pn) hisR ?_
  intro p e s m args below meth c s₁ Bd hml0 hP hK
  obtain ⟨rfl, hZ, hh⟩ := hP
  have hx := Bd.exec
  have hby := Bd.bytes
  have hml : c.maxLocals = 3 := hml0
  have hown : s.vm.findClass "java/util/Arrays" = some m.cls := findClass_of_methodNamed Bd.named
  have hnm := (name_of_methodNamed Bd.named Bd.method).1
  have X0 : Stand p l e ({ frames := 2, cells := 1, slots := 16, locals := 80 } : Room) s m #[(.ref t1), (.int (0 : Int32)), (.int (14 : Int32))] below meth c s₁ [] 0 0 := Stand.of_body Bd
  have e0 : s₁.heap = h0 := by rw [← hh, Bd.state]; rfl
  have N0 := Fr.nil n0
  have KP0 := Keep.refl h0 []
  refine own_go (Q := (OwnEnd s (fun v h L => ∃ b k, v = some (.ref b) ∧ Fr n0 L ∧ Ext h0 h ∧ n0 ≤ b ∧ h0.size ≤ b ∧ Arv Z h b k .byte (14 : Int32) [.int x0, .int x1, .int x2, .int x3, .int x4, .int x5, .int x6, .int x7, .int x8, .int x9, .int x10, .int x11, .int x12, .int x13] (.int 0)) ({ frames := 2, cells := 1, slots := 16, locals := 80 } : Room).cells ({ frames := 2, cells := 1, slots := 16, locals := 80 } : Room).slots)) ?_
  refine own_back (fun t k => castTop (cor14_ef m t1 (0 : Int32) (14 : Int32)) k) ?_
  show OwnGo p e below (s₁.setTop (mkF m 0 #[.val (.ref t1), .val (.int (0 : Int32)), .val (.int (14 : Int32))] [])) _
  refine own_back (fun t k => XS.iloadN X0.here hx rfl (hb hby cor14_d0) rfl k) ?_
  show OwnGo p e below (s₁.setTop (mkF m 1 #[.val (.ref t1), .val (.int (0 : Int32)), .val (.int (14 : Int32))] [(.int (0 : Int32))])) _
  refine own_back (fun t k => XS.ifNo X0.here hx rfl (hb hby cor14_d1) rfl (Jvm.Free.XT.i0_ne_f (by decide)) k) ?_
  show OwnGo p e below (s₁.setTop (mkF m 4 #[.val (.ref t1), .val (.int (0 : Int32)), .val (.int (14 : Int32))] [])) _
  refine own_back (fun t k => XS.iloadN X0.here hx rfl (hb hby cor14_d4) rfl k) ?_
  show OwnGo p e below (s₁.setTop (mkF m 5 #[.val (.ref t1), .val (.int (0 : Int32)), .val (.int (14 : Int32))] [(.int (14 : Int32))])) _
  refine own_back (fun t k => XS.aloadN X0.here hx rfl (hb hby cor14_d5) rfl rfl k) ?_
  show OwnGo p e below (s₁.setTop (mkF m 6 #[.val (.ref t1), .val (.int (0 : Int32)), .val (.int (14 : Int32))] [(.ref t1), (.int (14 : Int32))])) _
  obtain ⟨c502, A502, q502, S502, M502, H502, U502⟩ := id V1
  refine own_back (fun t k => X0.arraylength hx (own_hat e0 A502.1) (State.isArrayOf_alike hZ.alike A502.2.1) (g := (mkF m 6 #[.val (.ref t1), .val (.int (0 : Int32)), .val (.int (14 : Int32))] [(.ref t1), (.int (14 : Int32))])) rfl rfl (hb hby cor14_d6) t k) ?_
  rw [len_of S502 M502]
  show OwnGo p e below (s₁.setTop (mkF m 7 #[.val (.ref t1), .val (.int (0 : Int32)), .val (.int (14 : Int32))] [(.int (16 : Int32)), (.int (14 : Int32))])) _
  refine own_back (fun t k => XS.icmpNo X0.here hx rfl (hb hby cor14_d7) rfl (Jvm.Free.XT.ii_eq_f (by decide)) k) ?_
  show OwnGo p e below (s₁.setTop (mkF m 10 #[.val (.ref t1), .val (.int (0 : Int32)), .val (.int (14 : Int32))] [])) _
  refine own_back (fun t k => XS.aloadN X0.here hx rfl (hb hby cor14_d10) rfl rfl k) ?_
  show OwnGo p e below (s₁.setTop (mkF m 11 #[.val (.ref t1), .val (.int (0 : Int32)), .val (.int (14 : Int32))] [(.ref t1)])) _
  refine own_back (fun t k => XS.iloadN X0.here hx rfl (hb hby cor14_d11) rfl k) ?_
  show OwnGo p e below (s₁.setTop (mkF m 12 #[.val (.ref t1), .val (.int (0 : Int32)), .val (.int (14 : Int32))] [(.int (0 : Int32)), (.ref t1)])) _
  refine own_back (fun t k => XS.iloadN X0.here hx rfl (hb hby cor14_d12) rfl k) ?_
  show OwnGo p e below (s₁.setTop (mkF m 13 #[.val (.ref t1), .val (.int (0 : Int32)), .val (.int (14 : Int32))] [(.int (14 : Int32)), (.int (0 : Int32)), (.ref t1)])) _
  obtain ⟨_, _, ⟨T503, L503, k503, n503⟩, -, X503, ⟨Lc503, hQ503, l503, y503, z503⟩, st503⟩ := Jvm.LawKit.callS X0 hx (y := (⟨"java/util/Arrays", "copyOfRangeByte", "([BII)[B"⟩ : MethodName)) hown (mvT hZ (hw _ (List.mem_of_getElem? (i := 279) rfl))) (mvT hZ (hw _ (List.mem_of_getElem? (i := 280) rfl))) (mvT hZ (hw _ (List.mem_of_getElem? (i := 267) rfl))) (mvT hZ (hw _ (List.mem_of_getElem? (i := 281) rfl))) (by decide) (own_backN (W := 0) (rm_crb l Z a0 hw [] t1 k1 x0 x1 x2 x3 x4 x5 x6 x7 x8 x9 x10 x11 x12 x13 x14 x15 h0 n0 Z0 OL V1 X1) hZ (hw _ (List.mem_of_getElem? (i := 281) rfl)) (hw _ (List.mem_of_getElem? (i := 267) rfl)) (by decide) (by decide)) (g := (mkF m 13 #[.val (.ref t1), .val (.int (0 : Int32)), .val (.int (14 : Int32))] [(.int (14 : Int32)), (.int (0 : Int32)), (.ref t1)])) rfl (by rw [hml]; rfl) (argsL := [(.ref t1), (.int (0 : Int32)), (.int (14 : Int32))]) (rest := []) (lenOf cor14_pd0 rfl) rfl (by show 2 * 0 + _ ≤ _; exact Nat.le_of_eq rfl) (hb hby cor14_d13) (fun _ _ => ⟨rfl, e0, Nat.le_of_ble_eq_true rfl, Nat.le_of_ble_eq_true rfl⟩)
  dsimp only [Pt.U, Pt.locs, Pt.cells, Pt.slots] at X503 l503 y503 z503 st503 hQ503
  subst l503 y503 z503
  obtain ⟨bq503, kq503, rfl, N503q, E503, g503, z503, V503⟩ := hQ503
  refine own_back st503 ?_
  have N503 := Fr.app N0 N503q
  have O504 := OL.ext E503
  have KP505 := KP0.ext E503
  have Zs506 := Nat.le_trans Z0 E503.1
  have f507 := V1.ext E503
  have f508 := X1.ext E503
  show OwnGo p e below (T503.setTop (mkF m 16 #[.val (.ref t1), .val (.int (0 : Int32)), .val (.int (14 : Int32))] [(.ref bq503)])) _
  refine own_retA X503 hx Bd.notSynchronized Bd.returns rfl rfl (hb hby cor14_d16) rfl (Nat.le_of_ble_eq_true rfl) (Nat.le_of_ble_eq_true rfl) ?_
  exact ⟨_, _, rfl, N503, own_ext KP505, g503, z503, V503⟩
theorem sia10_d0 : decode jdk_42_method_150_code 0 = .ok (.aload_n 0, 1) := by decide +kernel
theorem sia10_d1 : decode jdk_42_method_150_code 1 = .ok (.invokespecial 1, 3) := by decide +kernel
theorem sia10_d4 : decode jdk_42_method_150_code 4 = .ok (.aload_n 1, 1) := by decide +kernel
theorem sia10_d5 : decode jdk_42_method_150_code 5 = .ok (.invokevirtual 552, 3) := by decide +kernel
theorem sia10_d8 : decode jdk_42_method_150_code 8 = .ok (.astore_n 3, 1) := by decide +kernel
theorem sia10_d9 : decode jdk_42_method_150_code 9 = .ok (.aload_n 1, 1) := by decide +kernel
theorem sia10_d10 : decode jdk_42_method_150_code 10 = .ok (.invokevirtual 549, 3) := by decide +kernel
theorem sia10_d13 : decode jdk_42_method_150_code 13 = .ok (.istore 4, 2) := by decide +kernel
theorem sia10_d15 : decode jdk_42_method_150_code 15 = .ok (.aload_n 1, 1) := by decide +kernel
theorem sia10_d16 : decode jdk_42_method_150_code 16 = .ok (.invokevirtual 1047, 3) := by decide +kernel
theorem sia10_d19 : decode jdk_42_method_150_code 19 = .ok (.ifCond .eq 22, 3) := by decide +kernel
theorem sia10_d22 : decode jdk_42_method_150_code 22 = .ok (.aload_n 0, 1) := by decide +kernel
theorem sia10_d23 : decode jdk_42_method_150_code 23 = .ok (.iconst 0, 1) := by decide +kernel
theorem sia10_d24 : decode jdk_42_method_150_code 24 = .ok (.putfield 15, 3) := by decide +kernel
theorem sia10_d27 : decode jdk_42_method_150_code 27 = .ok (.aload_n 0, 1) := by decide +kernel
theorem sia10_d28 : decode jdk_42_method_150_code 28 = .ok (.aload_n 3, 1) := by decide +kernel
theorem sia10_d29 : decode jdk_42_method_150_code 29 = .ok (.iconst 0, 1) := by decide +kernel
theorem sia10_d30 : decode jdk_42_method_150_code 30 = .ok (.iload 4, 2) := by decide +kernel
theorem sia10_d32 : decode jdk_42_method_150_code 32 = .ok (.invokestatic 54, 3) := by decide +kernel
theorem sia10_d35 : decode jdk_42_method_150_code 35 = .ok (.putfield 9, 3) := by decide +kernel
theorem sia10_d38 : decode jdk_42_method_150_code 38 = .ok (.goto 59, 3) := by decide +kernel
theorem sia10_d97 : decode jdk_42_method_150_code 97 = .ok (.return_, 1) := by decide +kernel
theorem sia10_pn : plainName "java/lang/String" = true := by first | (simp [plainName, overriddenIn]; done) | decide +kernel
theorem sia10_pd0 : parseMethodDescriptor "()[B" = some ⟨[], some (.array .byte)⟩ := by decide +kernel
theorem sia10_pd1 : parseMethodDescriptor "()I" = some ⟨[], some .int⟩ := by decide +kernel
theorem sia10_pd2 : parseMethodDescriptor "()Z" = some ⟨[], some .boolean⟩ := by decide +kernel
theorem sia10_pd3 : parseMethodDescriptor "([BII)[B" = some ⟨[(.array .byte), .int, .int], some (.array .byte)⟩ := by decide +kernel
theorem sia10_ef (m : MethodId) (x0 : Addr) (x1 : Addr) : entryFrame m #[(.ref x0), (.ref x1), .null] 5 = mkF m 0 #[.val (.ref x0), .val (.ref x1), .val .null, .unset, .unset] [] := by first | (simp [entryFrame, mkF, argsToLocals, Value.category]; done) | rfl
set_option maxRecDepth 65536 in
set_option maxHeartbeats 40000000 in
theorem rm_sia10 (l : Launch) (Z : State) (a0 : Array Value) (hw : ∀ d ∈ tables_1, d.before a0 Z = true) (ws : List Jvm.Cond) (a2 : Addr) (a1 : Addr) (t1 : Addr) (x0 : Int32) (x1 : Int32) (x2 : Int32) (x3 : Int32) (x4 : Int32) (x5 : Int32) (x6 : Int32) (x7 : Int32) (x8 : Int32) (x9 : Int32) (cz : Int32) (h0 : Heap) (n0 : Nat) (Z0 : n0 ≤ h0.size) (OL : Old Z n0 h0) (E2 : Exa Z h0 a2 "java/lang/String") (C2 : Fld Z h0 a2 "java/lang/String" "coder" "B" (.int 0)) (F2 : Fld Z h0 a2 "java/lang/String" "value" "[B" .null) (g2 : n0 ≤ a2) (B1 : OwnBd Z h0 a1 t1 [x0, x1, x2, x3, x4, x5, x6, x7, x8, x9] 10) (SC : Sta Z Z.heap "java/lang/String" "COMPACT_STRINGS" "Z" (.int cz)) (hcz : ¬ cz = 0) :
    MetFree l (⟨"java/lang/String", "<init>", "(Ljava/lang/AbstractStringBuilder;Ljava/lang/Void;)V"⟩ : MethodName) (head1 (Jvm.Cond.code (⟨"java/lang/String", "<init>", "(Ljava/lang/AbstractStringBuilder;Ljava/lang/Void;)V"⟩ : MethodName) jdk_42_method_150_code 5 none :: ws) ({ frames := 3, cells := 1, slots := 16, locals := 110 } : Room)) (fun a U => a = #[(.ref a2), (.ref a1), .null] ∧ Z.Warmed39 U.vm ∧ U.heap = h0) (fun _ _ _ _ _ => True) (fun _ U o U' => OwnEnd U (fun v h L => v = none ∧ Fr n0 L ∧ Keep h0 h [a2] ∧ OwnStr Z h a2 [x0, x1, x2, x3, x4, x5, x6, x7, x8, x9]) ({ frames := 3, cells := 1, slots := 16, locals := 110 } : Room).cells ({ frames := 3, cells := 1, slots := 16, locals := 110 } : Room).slots o U') := by
  refine MetFree.of_bodySF (plainFor_of_name sia10_pn) hisR ?_
  intro p e s m args below meth c s₁ Bd hml0 hP hK
  obtain ⟨rfl, hZ, hh⟩ := hP
  have hx := Bd.exec
  have hby := Bd.bytes
  have hml : c.maxLocals = 5 := hml0
  have hown : s.vm.findClass "java/lang/String" = some m.cls := findClass_of_methodNamed Bd.named
  have hnm := (name_of_methodNamed Bd.named Bd.method).1
  have X0 : Stand p l e ({ frames := 3, cells := 1, slots := 16, locals := 110 } : Room) s m #[(.ref a2), (.ref a1), .null] below meth c s₁ [] 0 0 := Stand.of_body Bd
  have e0 : s₁.heap = h0 := by rw [← hh, Bd.state]; rfl
  have N0 := Fr.nil n0
  have KP0 := Keep.refl h0 [a2]
  refine own_go (Q := (OwnEnd s (fun v h L => v = none ∧ Fr n0 L ∧ Keep h0 h [a2] ∧ OwnStr Z h a2 [x0, x1, x2, x3, x4, x5, x6, x7, x8, x9]) ({ frames := 3, cells := 1, slots := 16, locals := 110 } : Room).cells ({ frames := 3, cells := 1, slots := 16, locals := 110 } : Room).slots)) ?_
  refine own_back (fun t k => castTop (sia10_ef m a2 a1) k) ?_
  show OwnGo p e below (s₁.setTop (mkF m 0 #[.val (.ref a2), .val (.ref a1), .val .null, .unset, .unset] [])) _
  obtain ⟨k1, E1, C1, F1, N1, V1, X1, m1, m2⟩ := id B1
  have ne2 := own_exaarv V1 E2 (hw _ (List.mem_of_getElem? (i := 11) rfl))
  refine own_back (fun t k => XS.aloadN X0.here hx rfl (hb hby sia10_d0) rfl rfl k) ?_
  show OwnGo p e below (s₁.setTop (mkF m 1 #[.val (.ref a2), .val (.ref a1), .val .null, .unset, .unset] [(.ref a2)])) _
  obtain ⟨T509, X509, e509, st509⟩ := initO X0 hx hZ hown (hw _ (List.mem_of_getElem? (i := 250) rfl)) (hw _ (List.mem_of_getElem? (i := 22) rfl)) (hw _ (List.mem_of_getElem? (i := 23) rfl)) e0 (g := (mkF m 1 #[.val (.ref a2), .val (.ref a1), .val .null, .unset, .unset] [(.ref a2)])) rfl (by rw [hml]; rfl) rfl (hb hby sia10_d1) (by decide) (W := 0) (by show 2 * 0 + _ ≤ _; exact Nat.le_of_eq rfl) (by decide)
  refine own_back st509 ?_
  show OwnGo p e below (T509.setTop (mkF m 4 #[.val (.ref a2), .val (.ref a1), .val .null, .unset, .unset] [])) _
  refine own_back (fun t k => XS.aloadN X509.here hx rfl (hb hby sia10_d4) rfl rfl k) ?_
  show OwnGo p e below (T509.setTop (mkF m 5 #[.val (.ref a2), .val (.ref a1), .val .null, .unset, .unset] [(.ref a1)])) _
  obtain ⟨cq510, kq510, q510a, q510b, q510c⟩ := isOf hZ e509 E1
  obtain ⟨_, _, ⟨T510, L510, k510, n510⟩, -, X510, ⟨Lc510, hQ510, l510, y510, z510⟩, st510⟩ := X509.virtualBack hx (y := (⟨"java/lang/AbstractStringBuilder", "getValue", "()[B"⟩ : MethodName)) (z := (⟨"java/lang/AbstractStringBuilder", "getValue", "()[B"⟩ : MethodName)) hown (mvT hZ (hw _ (List.mem_of_getElem? (i := 251) rfl))) (mvT hZ (hw _ (List.mem_of_getElem? (i := 252) rfl))) (notFace_of_selects (args := #[]) (mvT hZ (hw _ (List.mem_of_getElem? (i := 254) rfl)))) (mvT hZ (hw _ (List.mem_of_getElem? (i := 254) rfl))) (mvT hZ (hw _ (List.mem_of_getElem? (i := 253) rfl))) (by decide) (own_backN (W := 0) (rm_gv l Z a0 hw [] a1 t1 h0 n0 Z0 F1) hZ (hw _ (List.mem_of_getElem? (i := 255) rfl)) (hw _ (List.mem_of_getElem? (i := 71) rfl)) (by decide) (by decide)) q510a q510c (g := (mkF m 5 #[.val (.ref a2), .val (.ref a1), .val .null, .unset, .unset] [(.ref a1)])) rfl (by rw [hml]; rfl) (Steps.refl _) (argsL := []) (rest := []) (lenOf sia10_pd0 rfl) rfl (by show 2 * 0 + _ ≤ _; exact Nat.le_of_eq rfl) (hb hby sia10_d5) (fun _ _ => ⟨rfl, e509, Nat.le_of_ble_eq_true rfl, Nat.le_of_ble_eq_true rfl⟩)
  dsimp only [Pt.U, Pt.locs, Pt.cells, Pt.slots] at X510 l510 y510 z510 st510 hQ510
  subst l510 y510 z510
  obtain ⟨rfl, N510q, hh510⟩ := hQ510
  refine own_seq st510 ?_
  have N510 := Fr.app N0 N510q
  show OwnGo p e below (T510.setTop (mkF m 8 #[.val (.ref a2), .val (.ref a1), .val .null, .unset, .unset] [(.ref t1)])) _
  refine own_back (fun t k => XS.astoreN X510.here hx rfl (hb hby sia10_d8) rfl rfl (l' := #[.val (.ref a2), .val (.ref a1), .val .null, .val (.ref t1), .unset]) rfl k) ?_
  show OwnGo p e below (T510.setTop (mkF m 9 #[.val (.ref a2), .val (.ref a1), .val .null, .val (.ref t1), .unset] [])) _
  refine own_back (fun t k => XS.aloadN X510.here hx rfl (hb hby sia10_d9) rfl rfl k) ?_
  show OwnGo p e below (T510.setTop (mkF m 10 #[.val (.ref a2), .val (.ref a1), .val .null, .val (.ref t1), .unset] [(.ref a1)])) _
  obtain ⟨cq511, kq511, q511a, q511b, q511c⟩ := isOf hZ hh510 E1
  obtain ⟨_, _, ⟨T511, L511, k511, n511⟩, -, X511, ⟨Lc511, hQ511, l511, y511, z511⟩, st511⟩ := X510.virtualBack hx (y := (⟨"java/lang/AbstractStringBuilder", "length", "()I"⟩ : MethodName)) (z := (⟨"java/lang/StringBuilder", "length", "()I"⟩ : MethodName)) hown (mvT hZ (hw _ (List.mem_of_getElem? (i := 256) rfl))) (mvT hZ (hw _ (List.mem_of_getElem? (i := 257) rfl))) (own_nfC (args := #[]) (mvT hZ (hw _ (List.mem_of_getElem? (i := 228) rfl))) (mvT hZ (hw _ (List.mem_of_getElem? (i := 226) rfl))) rfl) (mvT hZ (hw _ (List.mem_of_getElem? (i := 259) rfl))) (mvT hZ (hw _ (List.mem_of_getElem? (i := 260) rfl))) (by decide) (own_backN (W := 0) (rm_sln l Z a0 hw [] a1 (10 : Int32) h0 n0 Z0 E1 N1) hZ (hw _ (List.mem_of_getElem? (i := 261) rfl)) (hw _ (List.mem_of_getElem? (i := 63) rfl)) (by decide) (by decide)) q511a q511c (g := (mkF m 10 #[.val (.ref a2), .val (.ref a1), .val .null, .val (.ref t1), .unset] [(.ref a1)])) rfl (by rw [hml]; rfl) (Steps.refl _) (argsL := []) (rest := []) (lenOf sia10_pd1 rfl) rfl (by show 2 * 0 + _ ≤ _; exact Nat.le_of_eq rfl) (hb hby sia10_d10) (fun _ _ => ⟨rfl, hh510, Nat.le_of_ble_eq_true rfl, Nat.le_of_ble_eq_true rfl⟩)
  dsimp only [Pt.U, Pt.locs, Pt.cells, Pt.slots] at X511 l511 y511 z511 st511 hQ511
  subst l511 y511 z511
  obtain ⟨rfl, N511q, hh511⟩ := hQ511
  refine own_seq st511 ?_
  have N511 := Fr.app N510 N511q
  show OwnGo p e below (T511.setTop (mkF m 13 #[.val (.ref a2), .val (.ref a1), .val .null, .val (.ref t1), .unset] [(.int (10 : Int32))])) _
  refine own_back (fun t k => XS.istore X511.here hx rfl (hb hby sia10_d13) rfl (l' := #[.val (.ref a2), .val (.ref a1), .val .null, .val (.ref t1), .val (.int (10 : Int32))]) rfl k) ?_
  show OwnGo p e below (T511.setTop (mkF m 15 #[.val (.ref a2), .val (.ref a1), .val .null, .val (.ref t1), .val (.int (10 : Int32))] [])) _
  refine own_back (fun t k => XS.aloadN X511.here hx rfl (hb hby sia10_d15) rfl rfl k) ?_
  show OwnGo p e below (T511.setTop (mkF m 16 #[.val (.ref a2), .val (.ref a1), .val .null, .val (.ref t1), .val (.int (10 : Int32))] [(.ref a1)])) _
  obtain ⟨cq512, kq512, q512a, q512b, q512c⟩ := isOf hZ hh511 E1
  obtain ⟨_, _, ⟨T512, L512, k512, n512⟩, -, X512, ⟨Lc512, hQ512, l512, y512, z512⟩, st512⟩ := X511.virtualBack hx (y := (⟨"java/lang/AbstractStringBuilder", "isLatin1", "()Z"⟩ : MethodName)) (z := (⟨"java/lang/AbstractStringBuilder", "isLatin1", "()Z"⟩ : MethodName)) hown (mvT hZ (hw _ (List.mem_of_getElem? (i := 264) rfl))) (mvT hZ (hw _ (List.mem_of_getElem? (i := 226) rfl))) (notFace_of_selects (args := #[]) (mvT hZ (hw _ (List.mem_of_getElem? (i := 228) rfl)))) (mvT hZ (hw _ (List.mem_of_getElem? (i := 228) rfl))) (mvT hZ (hw _ (List.mem_of_getElem? (i := 227) rfl))) (by decide) (own_backN (W := 0) (rm_bl1 l Z a0 hw [] a1 cz h0 n0 Z0 OL C1 SC hcz) hZ (hw _ (List.mem_of_getElem? (i := 229) rfl)) (hw _ (List.mem_of_getElem? (i := 71) rfl)) (by decide) (by decide)) q512a q512c (g := (mkF m 16 #[.val (.ref a2), .val (.ref a1), .val .null, .val (.ref t1), .val (.int (10 : Int32))] [(.ref a1)])) rfl (by rw [hml]; rfl) (Steps.refl _) (argsL := []) (rest := []) (lenOf sia10_pd2 rfl) rfl (by show 2 * 0 + _ ≤ _; exact Nat.le_of_eq rfl) (hb hby sia10_d16) (fun _ _ => ⟨rfl, hh511, Nat.le_of_ble_eq_true rfl, Nat.le_of_ble_eq_true rfl⟩)
  dsimp only [Pt.U, Pt.locs, Pt.cells, Pt.slots] at X512 l512 y512 z512 st512 hQ512
  subst l512 y512 z512
  obtain ⟨rfl, N512q, hh512⟩ := hQ512
  refine own_seq st512 ?_
  have N512 := Fr.app N511 N512q
  show OwnGo p e below (T512.setTop (mkF m 19 #[.val (.ref a2), .val (.ref a1), .val .null, .val (.ref t1), .val (.int (10 : Int32))] [(.int (1 : Int32))])) _
  refine own_back (fun t k => XS.ifNo X512.here hx rfl (hb hby sia10_d19) rfl (Jvm.Free.XT.i0_eq_f (by decide)) k) ?_
  show OwnGo p e below (T512.setTop (mkF m 22 #[.val (.ref a2), .val (.ref a1), .val .null, .val (.ref t1), .val (.int (10 : Int32))] [])) _
  refine own_back (fun t k => XS.aloadN X512.here hx rfl (hb hby sia10_d22) rfl rfl k) ?_
  show OwnGo p e below (T512.setTop (mkF m 23 #[.val (.ref a2), .val (.ref a1), .val .null, .val (.ref t1), .val (.int (10 : Int32))] [(.ref a2)])) _
  refine own_back (fun t k => XS.iconst X512.here hx rfl (hb hby sia10_d23) k) ?_
  show OwnGo p e below (T512.setTop (mkF m 24 #[.val (.ref a2), .val (.ref a1), .val .null, .val (.ref t1), .val (.int (10 : Int32))] [(.int (0 : Int32)), (.ref a2)])) _
  obtain ⟨T513, h513, X513, e513, W513, st513⟩ := putF X512 hx hZ hown (host := "") (Or.inl (hw _ (List.mem_of_getElem? (i := 101) rfl))) Via.refl hh512 C2 E2 (Or.inr ⟨(hw _ (List.mem_of_getElem? (i := 14) rfl)), rfl, hnm⟩) (hw _ (List.mem_of_getElem? (i := 11) rfl)) (ty := .byte) (by decide) rfl rfl (g := (mkF m 24 #[.val (.ref a2), .val (.ref a1), .val .null, .val (.ref t1), .val (.int (10 : Int32))] [(.int (0 : Int32)), (.ref a2)])) rfl rfl (hb hby sia10_d24)
  have O514 := OL.wr W513 g2
  have KP515 := KP0.wr W513 (Or.inl (List.mem_of_getElem? (i := 0) rfl))
  have Zs516 := Nat.le_trans Z0 (Keep.of_wr W513).1
  have f517 := E1.wr W513
  have f518 := E2.wr W513
  have f519 := F2.other W513 (Or.inr (slot_ne (Or.inr (hw _ (List.mem_of_getElem? (i := 13) rfl))) (Or.inr (hw _ (List.mem_of_getElem? (i := 14) rfl))) (by decide) (t := (.array .byte)) (t' := .byte) (by decide) (by decide)))
  have f520 := V1.other W513 ne2
  have f521 := X1.wr W513
  have F522 := C2.same W513
  have N523 := Fr.snoc X513 N512 g2
  refine own_back st513 ?_
  show OwnGo p e below (T513.setTop (mkF m 27 #[.val (.ref a2), .val (.ref a1), .val .null, .val (.ref t1), .val (.int (10 : Int32))] [])) _
  refine own_back (fun t k => XS.aloadN X513.here hx rfl (hb hby sia10_d27) rfl rfl k) ?_
  show OwnGo p e below (T513.setTop (mkF m 28 #[.val (.ref a2), .val (.ref a1), .val .null, .val (.ref t1), .val (.int (10 : Int32))] [(.ref a2)])) _
  refine own_back (fun t k => XS.aloadN X513.here hx rfl (hb hby sia10_d28) rfl rfl k) ?_
  show OwnGo p e below (T513.setTop (mkF m 29 #[.val (.ref a2), .val (.ref a1), .val .null, .val (.ref t1), .val (.int (10 : Int32))] [(.ref t1), (.ref a2)])) _
  refine own_back (fun t k => XS.iconst X513.here hx rfl (hb hby sia10_d29) k) ?_
  show OwnGo p e below (T513.setTop (mkF m 30 #[.val (.ref a2), .val (.ref a1), .val .null, .val (.ref t1), .val (.int (10 : Int32))] [(.int (0 : Int32)), (.ref t1), (.ref a2)])) _
  refine own_back (fun t k => XS.iload X513.here hx rfl (hb hby sia10_d30) rfl k) ?_
  show OwnGo p e below (T513.setTop (mkF m 32 #[.val (.ref a2), .val (.ref a1), .val .null, .val (.ref t1), .val (.int (10 : Int32))] [(.int (10 : Int32)), (.int (0 : Int32)), (.ref t1), (.ref a2)])) _
  obtain ⟨_, _, ⟨T524, L524, k524, n524⟩, -, X524, ⟨Lc524, hQ524, l524, y524, z524⟩, st524⟩ := Jvm.LawKit.callS X513 hx (y := (⟨"java/util/Arrays", "copyOfRange", "([BII)[B"⟩ : MethodName)) hown (mvT hZ (hw _ (List.mem_of_getElem? (i := 265) rfl))) (mvT hZ (hw _ (List.mem_of_getElem? (i := 266) rfl))) (mvT hZ (hw _ (List.mem_of_getElem? (i := 267) rfl))) (mvT hZ (hw _ (List.mem_of_getElem? (i := 268) rfl))) (by decide) (own_backN (W := 1) (rm_cor10 l Z a0 hw [] t1 k1 x0 x1 x2 x3 x4 x5 x6 x7 x8 x9 h513 n0 Zs516 O514 f520 f521) hZ (hw _ (List.mem_of_getElem? (i := 268) rfl)) (hw _ (List.mem_of_getElem? (i := 267) rfl)) (by decide) (by decide)) (g := (mkF m 32 #[.val (.ref a2), .val (.ref a1), .val .null, .val (.ref t1), .val (.int (10 : Int32))] [(.int (10 : Int32)), (.int (0 : Int32)), (.ref t1), (.ref a2)])) rfl (by rw [hml]; rfl) (argsL := [(.ref t1), (.int (0 : Int32)), (.int (10 : Int32))]) (rest := [(.ref a2)]) (lenOf sia10_pd3 rfl) rfl (by show 2 * 0 + _ ≤ _; exact Nat.le_of_eq rfl) (hb hby sia10_d32) (fun _ _ => ⟨rfl, e513, Nat.le_of_ble_eq_true rfl, Nat.le_of_ble_eq_true rfl⟩)
  dsimp only [Pt.U, Pt.locs, Pt.cells, Pt.slots] at X524 l524 y524 z524 st524 hQ524
  subst l524 y524 z524
  obtain ⟨bq524, kq524, rfl, N524q, E524, g524, z524, V524⟩ := hQ524
  refine own_back st524 ?_
  have N524 := Fr.app N523 N524q
  have O525 := O514.ext E524
  have KP526 := KP515.ext E524
  have Zs527 := Nat.le_trans Zs516 E524.1
  have f528 := f517.ext E524
  have f529 := f518.ext E524
  have f530 := f519.ext E524
  have f531 := f520.ext E524
  have f532 := f521.ext E524
  have f533 := F522.ext E524
  have ne3524 := own_exaarv V524 f529 (hw _ (List.mem_of_getElem? (i := 11) rfl))
  show OwnGo p e below (T524.setTop (mkF m 35 #[.val (.ref a2), .val (.ref a1), .val .null, .val (.ref t1), .val (.int (10 : Int32))] [(.ref bq524), (.ref a2)])) _
  obtain ⟨T534, h534, X534, e534, W534, st534⟩ := putF X524 hx hZ hown (host := "") (Or.inl (hw _ (List.mem_of_getElem? (i := 94) rfl))) Via.refl rfl f530 f529 (Or.inr ⟨(hw _ (List.mem_of_getElem? (i := 13) rfl)), rfl, hnm⟩) (hw _ (List.mem_of_getElem? (i := 11) rfl)) (ty := (.array .byte)) (by decide) rfl rfl (g := (mkF m 35 #[.val (.ref a2), .val (.ref a1), .val .null, .val (.ref t1), .val (.int (10 : Int32))] [(.ref bq524), (.ref a2)])) rfl rfl (hb hby sia10_d35)
  have O535 := O525.wr W534 g2
  have KP536 := KP526.wr W534 (Or.inl (List.mem_of_getElem? (i := 0) rfl))
  have Zs537 := Nat.le_trans Zs527 (Keep.of_wr W534).1
  have f538 := f528.wr W534
  have f539 := f529.wr W534
  have f540 := f531.other W534 ne2
  have f541 := f532.wr W534
  have f542 := f533.other W534 (Or.inr (slot_ne (Or.inr (hw _ (List.mem_of_getElem? (i := 14) rfl))) (Or.inr (hw _ (List.mem_of_getElem? (i := 13) rfl))) (by decide) (t := .byte) (t' := (.array .byte)) (by decide) (by decide)))
  have f543 := V524.other W534 ne3524
  have F544 := f530.same W534
  have N545 := Fr.snoc X534 N524 g2
  refine own_back st534 ?_
  show OwnGo p e below (T534.setTop (mkF m 38 #[.val (.ref a2), .val (.ref a1), .val .null, .val (.ref t1), .val (.int (10 : Int32))] [])) _
  refine own_back (fun t k => XS.goto X534.here hx rfl (pc0 := 38) (pc' := 97) rfl (hb hby sia10_d38) (by decide) (by decide) k) ?_
  show OwnGo p e below (T534.setTop (mkF m 97 #[.val (.ref a2), .val (.ref a1), .val .null, .val (.ref t1), .val (.int (10 : Int32))] [])) _
  refine own_retV X534 hx Bd.notSynchronized Bd.returns (hb hby sia10_d97) e534 (Nat.le_of_ble_eq_true rfl) (Nat.le_of_ble_eq_true rfl) ?_
  exact ⟨rfl, N545, KP536, bq524, _, f539, f542, F544, f543, Nat.le_of_ble_eq_true rfl⟩
theorem sis10_d0 : decode jdk_42_method_53_code 0 = .ok (.aload_n 0, 1) := by decide +kernel
theorem sis10_d1 : decode jdk_42_method_53_code 1 = .ok (.aload_n 1, 1) := by decide +kernel
theorem sis10_d2 : decode jdk_42_method_53_code 2 = .ok (.aconst_null, 1) := by decide +kernel
theorem sis10_d3 : decode jdk_42_method_53_code 3 = .ok (.invokespecial 489, 3) := by decide +kernel
theorem sis10_d6 : decode jdk_42_method_53_code 6 = .ok (.return_, 1) := by decide +kernel
theorem sis10_pn : plainName "java/lang/String" = true := by first | (simp [plainName, overriddenIn]; done) | decide +kernel
theorem sis10_pd0 : parseMethodDescriptor "(Ljava/lang/AbstractStringBuilder;Ljava/lang/Void;)V" = some ⟨[(.object "java/lang/AbstractStringBuilder"), (.object "java/lang/Void")], none⟩ := by decide +kernel
theorem sis10_ef (m : MethodId) (x0 : Addr) (x1 : Addr) : entryFrame m #[(.ref x0), (.ref x1)] 2 = mkF m 0 #[.val (.ref x0), .val (.ref x1)] [] := by first | (simp [entryFrame, mkF, argsToLocals, Value.category]; done) | rfl
set_option maxRecDepth 65536 in
set_option maxHeartbeats 40000000 in
theorem rm_sis10 (l : Launch) (Z : State) (a0 : Array Value) (hw : ∀ d ∈ tables_1, d.before a0 Z = true) (ws : List Jvm.Cond) (a2 : Addr) (a1 : Addr) (t1 : Addr) (x0 : Int32) (x1 : Int32) (x2 : Int32) (x3 : Int32) (x4 : Int32) (x5 : Int32) (x6 : Int32) (x7 : Int32) (x8 : Int32) (x9 : Int32) (cz : Int32) (h0 : Heap) (n0 : Nat) (Z0 : n0 ≤ h0.size) (OL : Old Z n0 h0) (E2 : Exa Z h0 a2 "java/lang/String") (C2 : Fld Z h0 a2 "java/lang/String" "coder" "B" (.int 0)) (F2 : Fld Z h0 a2 "java/lang/String" "value" "[B" .null) (g2 : n0 ≤ a2) (B1 : OwnBd Z h0 a1 t1 [x0, x1, x2, x3, x4, x5, x6, x7, x8, x9] 10) (SC : Sta Z Z.heap "java/lang/String" "COMPACT_STRINGS" "Z" (.int cz)) (hcz : ¬ cz = 0) :
    MetFree l (⟨"java/lang/String", "<init>", "(Ljava/lang/StringBuilder;)V"⟩ : MethodName) (head1 (Jvm.Cond.code (⟨"java/lang/String", "<init>", "(Ljava/lang/StringBuilder;)V"⟩ : MethodName) jdk_42_method_53_code 2 none :: ws) ({ frames := 4, cells := 1, slots := 16, locals := 130 } : Room)) (fun a U => a = #[(.ref a2), (.ref a1)] ∧ Z.Warmed39 U.vm ∧ U.heap = h0) (fun _ _ _ _ _ => True) (fun _ U o U' => OwnEnd U (fun v h L => v = none ∧ Fr n0 L ∧ Keep h0 h [a2] ∧ OwnStr Z h a2 [x0, x1, x2, x3, x4, x5, x6, x7, x8, x9]) ({ frames := 4, cells := 1, slots := 16, locals := 130 } : Room).cells ({ frames := 4, cells := 1, slots := 16, locals := 130 } : Room).slots o U') := by
  refine MetFree.of_bodySF (plainFor_of_name sis10_pn) hisR ?_
  intro p e s m args below meth c s₁ Bd hml0 hP hK
  obtain ⟨rfl, hZ, hh⟩ := hP
  have hx := Bd.exec
  have hby := Bd.bytes
  have hml : c.maxLocals = 2 := hml0
  have hown : s.vm.findClass "java/lang/String" = some m.cls := findClass_of_methodNamed Bd.named
  have hnm := (name_of_methodNamed Bd.named Bd.method).1
  have X0 : Stand p l e ({ frames := 4, cells := 1, slots := 16, locals := 130 } : Room) s m #[(.ref a2), (.ref a1)] below meth c s₁ [] 0 0 := Stand.of_body Bd
  have e0 : s₁.heap = h0 := by rw [← hh, Bd.state]; rfl
  have N0 := Fr.nil n0
  have KP0 := Keep.refl h0 [a2]
  refine own_go (Q := (OwnEnd s (fun v h L => v = none ∧ Fr n0 L ∧ Keep h0 h [a2] ∧ OwnStr Z h a2 [x0, x1, x2, x3, x4, x5, x6, x7, x8, x9]) ({ frames := 4, cells := 1, slots := 16, locals := 130 } : Room).cells ({ frames := 4, cells := 1, slots := 16, locals := 130 } : Room).slots)) ?_
  refine own_back (fun t k => castTop (sis10_ef m a2 a1) k) ?_
  show OwnGo p e below (s₁.setTop (mkF m 0 #[.val (.ref a2), .val (.ref a1)] [])) _
  refine own_back (fun t k => XS.aloadN X0.here hx rfl (hb hby sis10_d0) rfl rfl k) ?_
  show OwnGo p e below (s₁.setTop (mkF m 1 #[.val (.ref a2), .val (.ref a1)] [(.ref a2)])) _
  refine own_back (fun t k => XS.aloadN X0.here hx rfl (hb hby sis10_d1) rfl rfl k) ?_
  show OwnGo p e below (s₁.setTop (mkF m 2 #[.val (.ref a2), .val (.ref a1)] [(.ref a1), (.ref a2)])) _
  refine own_back (fun t k => XS.aconstNull X0.here hx rfl (hb hby sis10_d2) k) ?_
  show OwnGo p e below (s₁.setTop (mkF m 3 #[.val (.ref a2), .val (.ref a1)] [.null, (.ref a1), (.ref a2)])) _
  obtain ⟨_, _, ⟨T546, L546, k546, n546⟩, -, X546, ⟨Lc546, hQ546, l546, y546, z546⟩, st546⟩ := X0.specialBack hx (y := (⟨"java/lang/String", "<init>", "(Ljava/lang/AbstractStringBuilder;Ljava/lang/Void;)V"⟩ : MethodName)) rfl hown (mvT hZ (hw _ (List.mem_of_getElem? (i := 247) rfl))) (mvT hZ (hw _ (List.mem_of_getElem? (i := 248) rfl))) (mvT hZ (hw _ (List.mem_of_getElem? (i := 249) rfl))) (by decide) (own_backN (W := 0) (rm_sia10 l Z a0 hw [] a2 a1 t1 x0 x1 x2 x3 x4 x5 x6 x7 x8 x9 cz h0 n0 Z0 OL E2 C2 F2 g2 B1 SC hcz) hZ (hw _ (List.mem_of_getElem? (i := 249) rfl)) (hw _ (List.mem_of_getElem? (i := 10) rfl)) (by decide) (by decide)) (g := (mkF m 3 #[.val (.ref a2), .val (.ref a1)] [.null, (.ref a1), (.ref a2)])) rfl (by rw [hml]; rfl) (Steps.refl _) (a := a2) (argsL := [(.ref a1), .null]) (rest := []) (lenOf sis10_pd0 rfl) rfl (by show 2 * 0 + _ ≤ _; exact Nat.le_of_eq rfl) (hb hby sis10_d3) (fun _ _ => ⟨rfl, e0, Nat.le_of_ble_eq_true rfl, Nat.le_of_ble_eq_true rfl⟩)
  dsimp only [Pt.U, Pt.locs, Pt.cells, Pt.slots] at X546 l546 y546 z546 st546 hQ546
  subst l546 y546 z546
  obtain ⟨rfl, N546q, K546, Q546⟩ := hQ546
  refine own_seq st546 ?_
  have N546 := Fr.app N0 N546q
  have O547 := OL.keep K546 (allS g2 all0)
  have KP548 := KP0.trans K546 (allS (Or.inl (List.mem_of_getElem? (i := 0) rfl)) all0)
  have Zs549 := Nat.le_trans Z0 K546.1
  show OwnGo p e below (T546.setTop (mkF m 6 #[.val (.ref a2), .val (.ref a1)] [])) _
  refine own_retV X546 hx Bd.notSynchronized Bd.returns (hb hby sis10_d6) rfl (Nat.le_of_ble_eq_true rfl) (Nat.le_of_ble_eq_true rfl) ?_
  exact ⟨rfl, N546, KP548, Q546⟩
theorem sts10_d0 : decode jdk_67_method_42_code 0 = .ok (.new 18, 3) := by decide +kernel
theorem sts10_d3 : decode jdk_67_method_42_code 3 = .ok (.dup, 1) := by decide +kernel
theorem sts10_d4 : decode jdk_67_method_42_code 4 = .ok (.aload_n 0, 1) := by decide +kernel
theorem sts10_d5 : decode jdk_67_method_42_code 5 = .ok (.invokespecial 137, 3) := by decide +kernel
theorem sts10_d8 : decode jdk_67_method_42_code 8 = .ok (.areturn, 1) := by decide +kernel
theorem sts10_pn : plainName "java/lang/StringBuilder" = true := by first | (simp [plainName, overriddenIn]; done) | decide +kernel
theorem sts10_pd0 : parseMethodDescriptor "(Ljava/lang/StringBuilder;)V" = some ⟨[(.object "java/lang/StringBuilder")], none⟩ := by decide +kernel
theorem sts10_ef (m : MethodId) (x0 : Addr) : entryFrame m #[(.ref x0)] 1 = mkF m 0 #[.val (.ref x0)] [] := by first | (simp [entryFrame, mkF, argsToLocals, Value.category]; done) | rfl
set_option maxRecDepth 65536 in
set_option maxHeartbeats 40000000 in
theorem rm_sts10 (l : Launch) (Z : State) (a0 : Array Value) (hw : ∀ d ∈ tables_1, d.before a0 Z = true) (ws : List Jvm.Cond) (a1 : Addr) (t1 : Addr) (x0 : Int32) (x1 : Int32) (x2 : Int32) (x3 : Int32) (x4 : Int32) (x5 : Int32) (x6 : Int32) (x7 : Int32) (x8 : Int32) (x9 : Int32) (cz : Int32) (h0 : Heap) (n0 : Nat) (Z0 : n0 ≤ h0.size) (OL : Old Z n0 h0) (B1 : OwnBd Z h0 a1 t1 [x0, x1, x2, x3, x4, x5, x6, x7, x8, x9] 10) (SC : Sta Z Z.heap "java/lang/String" "COMPACT_STRINGS" "Z" (.int cz)) (hcz : ¬ cz = 0) :
    MetFree l (⟨"java/lang/StringBuilder", "toString", "()Ljava/lang/String;"⟩ : MethodName) (head1 (Jvm.Cond.code (⟨"java/lang/StringBuilder", "toString", "()Ljava/lang/String;"⟩ : MethodName) jdk_67_method_42_code 1 (some (.object "java/lang/String")) :: ws) ({ frames := 5, cells := 2, slots := 24, locals := 150 } : Room)) (fun a U => a = #[(.ref a1)] ∧ Z.Warmed39 U.vm ∧ U.heap = h0) (fun _ _ _ _ _ => True) (fun _ U o U' => OwnEnd U (fun v h L => ∃ a, v = some (.ref a) ∧ Fr n0 L ∧ Ext h0 h ∧ OwnStr Z h a [x0, x1, x2, x3, x4, x5, x6, x7, x8, x9]) ({ frames := 5, cells := 2, slots := 24, locals := 150 } : Room).cells ({ frames := 5, cells := 2, slots := 24, locals := 150 } : Room).slots o U') := by
  refine MetFree.of_bodySF (plainFor_of_name sts10_pn) hisR ?_
  intro p e s m args below meth c s₁ Bd hml0 hP hK
  obtain ⟨rfl, hZ, hh⟩ := hP
  have hx := Bd.exec
  have hby := Bd.bytes
  have hml : c.maxLocals = 1 := hml0
  have hown : s.vm.findClass "java/lang/StringBuilder" = some m.cls := findClass_of_methodNamed Bd.named
  have hnm := (name_of_methodNamed Bd.named Bd.method).1
  have X0 : Stand p l e ({ frames := 5, cells := 2, slots := 24, locals := 150 } : Room) s m #[(.ref a1)] below meth c s₁ [] 0 0 := Stand.of_body Bd
  have e0 : s₁.heap = h0 := by rw [← hh, Bd.state]; rfl
  have N0 := Fr.nil n0
  have KP0 := Keep.refl h0 []
  refine own_go (Q := (OwnEnd s (fun v h L => ∃ a, v = some (.ref a) ∧ Fr n0 L ∧ Ext h0 h ∧ OwnStr Z h a [x0, x1, x2, x3, x4, x5, x6, x7, x8, x9]) ({ frames := 5, cells := 2, slots := 24, locals := 150 } : Room).cells ({ frames := 5, cells := 2, slots := 24, locals := 150 } : Room).slots)) ?_
  refine own_back (fun t k => castTop (sts10_ef m a1) k) ?_
  show OwnGo p e below (s₁.setTop (mkF m 0 #[.val (.ref a1)] [])) _
  obtain ⟨T550, h550, X550, e550, E550, A550, D550, -, st550⟩ := newO X0 hx hZ hown (hw _ (List.mem_of_getElem? (i := 242) rfl)) (hw _ (List.mem_of_getElem? (i := 11) rfl)) (hw _ (List.mem_of_getElem? (i := 10) rfl)) e0 (g := (mkF m 0 #[.val (.ref a1)] [])) rfl (hb hby sts10_d0) (Nat.le_of_ble_eq_true rfl) (Nat.le_of_ble_eq_true rfl)
  obtain ⟨b550, g550⟩ : ∃ z, z = h0.size := ⟨_, rfl⟩
  have ge551 : n0 ≤ b550 := Nat.le_trans Z0 (Nat.le_of_eq g550.symm)
  have sz552 : h0.size ≤ b550 := Nat.le_trans KP0.1 (Nat.le_of_eq g550.symm)
  rw [← g550] at A550 D550 st550
  have O553 := OL.ext E550
  have KP554 := KP0.ext E550
  have Zs555 := Nat.le_trans Z0 E550.1
  have F556 : Fld Z h550 b550 "java/lang/String" "value" "[B" .null := D550 (Or.inr (hw _ (List.mem_of_getElem? (i := 13) rfl))) (ty := (.array .byte)) (by decide)
  have F557 : Fld Z h550 b550 "java/lang/String" "coder" "B" (.int (0 : Int32)) := D550 (Or.inr (hw _ (List.mem_of_getElem? (i := 14) rfl))) (ty := .byte) (by decide)
  refine own_back st550 ?_
  show OwnGo p e below (T550.setTop (mkF m 3 #[.val (.ref a1)] [(.ref b550)])) _
  refine own_back (fun t k => XS.dup X550.here hx rfl (hb hby sts10_d3) rfl rfl k) ?_
  show OwnGo p e below (T550.setTop (mkF m 4 #[.val (.ref a1)] [(.ref b550), (.ref b550)])) _
  refine own_back (fun t k => XS.aloadN X550.here hx rfl (hb hby sts10_d4) rfl rfl k) ?_
  show OwnGo p e below (T550.setTop (mkF m 5 #[.val (.ref a1)] [(.ref a1), (.ref b550), (.ref b550)])) _
  obtain ⟨_, _, ⟨T558, L558, k558, n558⟩, -, X558, ⟨Lc558, hQ558, l558, y558, z558⟩, st558⟩ := X550.specialBack hx (y := (⟨"java/lang/String", "<init>", "(Ljava/lang/StringBuilder;)V"⟩ : MethodName)) rfl hown (mvT hZ (hw _ (List.mem_of_getElem? (i := 243) rfl))) (mvT hZ (hw _ (List.mem_of_getElem? (i := 244) rfl))) (mvT hZ (hw _ (List.mem_of_getElem? (i := 246) rfl))) (by decide) (own_backN (W := 1) (rm_sis10 l Z a0 hw [] b550 a1 t1 x0 x1 x2 x3 x4 x5 x6 x7 x8 x9 cz h550 n0 Zs555 O553 A550 F557 F556 ge551 (OwnBd.ext (own_ext KP554) B1) SC hcz) hZ (hw _ (List.mem_of_getElem? (i := 246) rfl)) (hw _ (List.mem_of_getElem? (i := 10) rfl)) (by decide) (by decide)) (g := (mkF m 5 #[.val (.ref a1)] [(.ref a1), (.ref b550), (.ref b550)])) rfl (by rw [hml]; rfl) (Steps.refl _) (a := b550) (argsL := [(.ref a1)]) (rest := [(.ref b550)]) (lenOf sts10_pd0 rfl) rfl (by show 2 * 0 + _ ≤ _; exact Nat.le_of_eq rfl) (hb hby sts10_d5) (fun _ _ => ⟨rfl, e550, Nat.le_of_ble_eq_true rfl, Nat.le_of_ble_eq_true rfl⟩)
  dsimp only [Pt.U, Pt.locs, Pt.cells, Pt.slots] at X558 l558 y558 z558 st558 hQ558
  subst l558 y558 z558
  obtain ⟨rfl, N558q, K558, Q558⟩ := hQ558
  refine own_seq st558 ?_
  have N558 := Fr.app N0 N558q
  have O559 := O553.keep K558 (allS ge551 all0)
  have KP560 := KP554.trans K558 (allS (Or.inr sz552) all0)
  have Zs561 := Nat.le_trans Zs555 K558.1
  have f562 := A550.keep K558
  show OwnGo p e below (T558.setTop (mkF m 8 #[.val (.ref a1)] [(.ref b550)])) _
  refine own_retA X558 hx Bd.notSynchronized Bd.returns rfl rfl (hb hby sts10_d8) rfl (Nat.le_of_ble_eq_true rfl) (Nat.le_of_ble_eq_true rfl) ?_
  exact ⟨_, rfl, N558, own_ext KP560, Q558⟩
theorem sia14_d0 : decode jdk_42_method_150_code 0 = .ok (.aload_n 0, 1) := by decide +kernel
theorem sia14_d1 : decode jdk_42_method_150_code 1 = .ok (.invokespecial 1, 3) := by decide +kernel
theorem sia14_d4 : decode jdk_42_method_150_code 4 = .ok (.aload_n 1, 1) := by decide +kernel
theorem sia14_d5 : decode jdk_42_method_150_code 5 = .ok (.invokevirtual 552, 3) := by decide +kernel
theorem sia14_d8 : decode jdk_42_method_150_code 8 = .ok (.astore_n 3, 1) := by decide +kernel
theorem sia14_d9 : decode jdk_42_method_150_code 9 = .ok (.aload_n 1, 1) := by decide +kernel
theorem sia14_d10 : decode jdk_42_method_150_code 10 = .ok (.invokevirtual 549, 3) := by decide +kernel
theorem sia14_d13 : decode jdk_42_method_150_code 13 = .ok (.istore 4, 2) := by decide +kernel
theorem sia14_d15 : decode jdk_42_method_150_code 15 = .ok (.aload_n 1, 1) := by decide +kernel
theorem sia14_d16 : decode jdk_42_method_150_code 16 = .ok (.invokevirtual 1047, 3) := by decide +kernel
theorem sia14_d19 : decode jdk_42_method_150_code 19 = .ok (.ifCond .eq 22, 3) := by decide +kernel
theorem sia14_d22 : decode jdk_42_method_150_code 22 = .ok (.aload_n 0, 1) := by decide +kernel
theorem sia14_d23 : decode jdk_42_method_150_code 23 = .ok (.iconst 0, 1) := by decide +kernel
theorem sia14_d24 : decode jdk_42_method_150_code 24 = .ok (.putfield 15, 3) := by decide +kernel
theorem sia14_d27 : decode jdk_42_method_150_code 27 = .ok (.aload_n 0, 1) := by decide +kernel
theorem sia14_d28 : decode jdk_42_method_150_code 28 = .ok (.aload_n 3, 1) := by decide +kernel
theorem sia14_d29 : decode jdk_42_method_150_code 29 = .ok (.iconst 0, 1) := by decide +kernel
theorem sia14_d30 : decode jdk_42_method_150_code 30 = .ok (.iload 4, 2) := by decide +kernel
theorem sia14_d32 : decode jdk_42_method_150_code 32 = .ok (.invokestatic 54, 3) := by decide +kernel
theorem sia14_d35 : decode jdk_42_method_150_code 35 = .ok (.putfield 9, 3) := by decide +kernel
theorem sia14_d38 : decode jdk_42_method_150_code 38 = .ok (.goto 59, 3) := by decide +kernel
theorem sia14_d97 : decode jdk_42_method_150_code 97 = .ok (.return_, 1) := by decide +kernel
theorem sia14_pn : plainName "java/lang/String" = true := by first | (simp [plainName, overriddenIn]; done) | decide +kernel
theorem sia14_pd0 : parseMethodDescriptor "()[B" = some ⟨[], some (.array .byte)⟩ := by decide +kernel
theorem sia14_pd1 : parseMethodDescriptor "()I" = some ⟨[], some .int⟩ := by decide +kernel
theorem sia14_pd2 : parseMethodDescriptor "()Z" = some ⟨[], some .boolean⟩ := by decide +kernel
theorem sia14_pd3 : parseMethodDescriptor "([BII)[B" = some ⟨[(.array .byte), .int, .int], some (.array .byte)⟩ := by decide +kernel
theorem sia14_ef (m : MethodId) (x0 : Addr) (x1 : Addr) : entryFrame m #[(.ref x0), (.ref x1), .null] 5 = mkF m 0 #[.val (.ref x0), .val (.ref x1), .val .null, .unset, .unset] [] := by first | (simp [entryFrame, mkF, argsToLocals, Value.category]; done) | rfl
set_option maxRecDepth 65536 in
set_option maxHeartbeats 40000000 in
theorem rm_sia14 (l : Launch) (Z : State) (a0 : Array Value) (hw : ∀ d ∈ tables_1, d.before a0 Z = true) (ws : List Jvm.Cond) (a2 : Addr) (a1 : Addr) (t1 : Addr) (x0 : Int32) (x1 : Int32) (x2 : Int32) (x3 : Int32) (x4 : Int32) (x5 : Int32) (x6 : Int32) (x7 : Int32) (x8 : Int32) (x9 : Int32) (x10 : Int32) (x11 : Int32) (x12 : Int32) (x13 : Int32) (x14 : Int32) (x15 : Int32) (cz : Int32) (h0 : Heap) (n0 : Nat) (Z0 : n0 ≤ h0.size) (OL : Old Z n0 h0) (E2 : Exa Z h0 a2 "java/lang/String") (C2 : Fld Z h0 a2 "java/lang/String" "coder" "B" (.int 0)) (F2 : Fld Z h0 a2 "java/lang/String" "value" "[B" .null) (g2 : n0 ≤ a2) (B1 : OwnBd Z h0 a1 t1 [x0, x1, x2, x3, x4, x5, x6, x7, x8, x9, x10, x11, x12, x13, x14, x15] 14) (SC : Sta Z Z.heap "java/lang/String" "COMPACT_STRINGS" "Z" (.int cz)) (hcz : ¬ cz = 0) :
    MetFree l (⟨"java/lang/String", "<init>", "(Ljava/lang/AbstractStringBuilder;Ljava/lang/Void;)V"⟩ : MethodName) (head1 (Jvm.Cond.code (⟨"java/lang/String", "<init>", "(Ljava/lang/AbstractStringBuilder;Ljava/lang/Void;)V"⟩ : MethodName) jdk_42_method_150_code 5 none :: ws) ({ frames := 3, cells := 1, slots := 16, locals := 110 } : Room)) (fun a U => a = #[(.ref a2), (.ref a1), .null] ∧ Z.Warmed39 U.vm ∧ U.heap = h0) (fun _ _ _ _ _ => True) (fun _ U o U' => OwnEnd U (fun v h L => v = none ∧ Fr n0 L ∧ Keep h0 h [a2] ∧ OwnStr Z h a2 [x0, x1, x2, x3, x4, x5, x6, x7, x8, x9, x10, x11, x12, x13]) ({ frames := 3, cells := 1, slots := 16, locals := 110 } : Room).cells ({ frames := 3, cells := 1, slots := 16, locals := 110 } : Room).slots o U') := by
  refine MetFree.of_bodySF (plainFor_of_name sia14_pn) hisR ?_
  intro p e s m args below meth c s₁ Bd hml0 hP hK
  obtain ⟨rfl, hZ, hh⟩ := hP
  have hx := Bd.exec
  have hby := Bd.bytes
  have hml : c.maxLocals = 5 := hml0
  have hown : s.vm.findClass "java/lang/String" = some m.cls := findClass_of_methodNamed Bd.named
  have hnm := (name_of_methodNamed Bd.named Bd.method).1
  have X0 : Stand p l e ({ frames := 3, cells := 1, slots := 16, locals := 110 } : Room) s m #[(.ref a2), (.ref a1), .null] below meth c s₁ [] 0 0 := Stand.of_body Bd
  have e0 : s₁.heap = h0 := by rw [← hh, Bd.state]; rfl
  have N0 := Fr.nil n0
  have KP0 := Keep.refl h0 [a2]
  refine own_go (Q := (OwnEnd s (fun v h L => v = none ∧ Fr n0 L ∧ Keep h0 h [a2] ∧ OwnStr Z h a2 [x0, x1, x2, x3, x4, x5, x6, x7, x8, x9, x10, x11, x12, x13]) ({ frames := 3, cells := 1, slots := 16, locals := 110 } : Room).cells ({ frames := 3, cells := 1, slots := 16, locals := 110 } : Room).slots)) ?_
  refine own_back (fun t k => castTop (sia14_ef m a2 a1) k) ?_
  show OwnGo p e below (s₁.setTop (mkF m 0 #[.val (.ref a2), .val (.ref a1), .val .null, .unset, .unset] [])) _
  obtain ⟨k1, E1, C1, F1, N1, V1, X1, m1, m2⟩ := id B1
  have ne2 := own_exaarv V1 E2 (hw _ (List.mem_of_getElem? (i := 11) rfl))
  refine own_back (fun t k => XS.aloadN X0.here hx rfl (hb hby sia14_d0) rfl rfl k) ?_
  show OwnGo p e below (s₁.setTop (mkF m 1 #[.val (.ref a2), .val (.ref a1), .val .null, .unset, .unset] [(.ref a2)])) _
  obtain ⟨T563, X563, e563, st563⟩ := initO X0 hx hZ hown (hw _ (List.mem_of_getElem? (i := 250) rfl)) (hw _ (List.mem_of_getElem? (i := 22) rfl)) (hw _ (List.mem_of_getElem? (i := 23) rfl)) e0 (g := (mkF m 1 #[.val (.ref a2), .val (.ref a1), .val .null, .unset, .unset] [(.ref a2)])) rfl (by rw [hml]; rfl) rfl (hb hby sia14_d1) (by decide) (W := 0) (by show 2 * 0 + _ ≤ _; exact Nat.le_of_eq rfl) (by decide)
  refine own_back st563 ?_
  show OwnGo p e below (T563.setTop (mkF m 4 #[.val (.ref a2), .val (.ref a1), .val .null, .unset, .unset] [])) _
  refine own_back (fun t k => XS.aloadN X563.here hx rfl (hb hby sia14_d4) rfl rfl k) ?_
  show OwnGo p e below (T563.setTop (mkF m 5 #[.val (.ref a2), .val (.ref a1), .val .null, .unset, .unset] [(.ref a1)])) _
  obtain ⟨cq564, kq564, q564a, q564b, q564c⟩ := isOf hZ e563 E1
  obtain ⟨_, _, ⟨T564, L564, k564, n564⟩, -, X564, ⟨Lc564, hQ564, l564, y564, z564⟩, st564⟩ := X563.virtualBack hx (y := (⟨"java/lang/AbstractStringBuilder", "getValue", "()[B"⟩ : MethodName)) (z := (⟨"java/lang/AbstractStringBuilder", "getValue", "()[B"⟩ : MethodName)) hown (mvT hZ (hw _ (List.mem_of_getElem? (i := 251) rfl))) (mvT hZ (hw _ (List.mem_of_getElem? (i := 252) rfl))) (notFace_of_selects (args := #[]) (mvT hZ (hw _ (List.mem_of_getElem? (i := 254) rfl)))) (mvT hZ (hw _ (List.mem_of_getElem? (i := 254) rfl))) (mvT hZ (hw _ (List.mem_of_getElem? (i := 253) rfl))) (by decide) (own_backN (W := 0) (rm_gv l Z a0 hw [] a1 t1 h0 n0 Z0 F1) hZ (hw _ (List.mem_of_getElem? (i := 255) rfl)) (hw _ (List.mem_of_getElem? (i := 71) rfl)) (by decide) (by decide)) q564a q564c (g := (mkF m 5 #[.val (.ref a2), .val (.ref a1), .val .null, .unset, .unset] [(.ref a1)])) rfl (by rw [hml]; rfl) (Steps.refl _) (argsL := []) (rest := []) (lenOf sia14_pd0 rfl) rfl (by show 2 * 0 + _ ≤ _; exact Nat.le_of_eq rfl) (hb hby sia14_d5) (fun _ _ => ⟨rfl, e563, Nat.le_of_ble_eq_true rfl, Nat.le_of_ble_eq_true rfl⟩)
  dsimp only [Pt.U, Pt.locs, Pt.cells, Pt.slots] at X564 l564 y564 z564 st564 hQ564
  subst l564 y564 z564
  obtain ⟨rfl, N564q, hh564⟩ := hQ564
  refine own_seq st564 ?_
  have N564 := Fr.app N0 N564q
  show OwnGo p e below (T564.setTop (mkF m 8 #[.val (.ref a2), .val (.ref a1), .val .null, .unset, .unset] [(.ref t1)])) _
  refine own_back (fun t k => XS.astoreN X564.here hx rfl (hb hby sia14_d8) rfl rfl (l' := #[.val (.ref a2), .val (.ref a1), .val .null, .val (.ref t1), .unset]) rfl k) ?_
  show OwnGo p e below (T564.setTop (mkF m 9 #[.val (.ref a2), .val (.ref a1), .val .null, .val (.ref t1), .unset] [])) _
  refine own_back (fun t k => XS.aloadN X564.here hx rfl (hb hby sia14_d9) rfl rfl k) ?_
  show OwnGo p e below (T564.setTop (mkF m 10 #[.val (.ref a2), .val (.ref a1), .val .null, .val (.ref t1), .unset] [(.ref a1)])) _
  obtain ⟨cq565, kq565, q565a, q565b, q565c⟩ := isOf hZ hh564 E1
  obtain ⟨_, _, ⟨T565, L565, k565, n565⟩, -, X565, ⟨Lc565, hQ565, l565, y565, z565⟩, st565⟩ := X564.virtualBack hx (y := (⟨"java/lang/AbstractStringBuilder", "length", "()I"⟩ : MethodName)) (z := (⟨"java/lang/StringBuilder", "length", "()I"⟩ : MethodName)) hown (mvT hZ (hw _ (List.mem_of_getElem? (i := 256) rfl))) (mvT hZ (hw _ (List.mem_of_getElem? (i := 257) rfl))) (own_nfC (args := #[]) (mvT hZ (hw _ (List.mem_of_getElem? (i := 228) rfl))) (mvT hZ (hw _ (List.mem_of_getElem? (i := 226) rfl))) rfl) (mvT hZ (hw _ (List.mem_of_getElem? (i := 259) rfl))) (mvT hZ (hw _ (List.mem_of_getElem? (i := 260) rfl))) (by decide) (own_backN (W := 0) (rm_sln l Z a0 hw [] a1 (14 : Int32) h0 n0 Z0 E1 N1) hZ (hw _ (List.mem_of_getElem? (i := 261) rfl)) (hw _ (List.mem_of_getElem? (i := 63) rfl)) (by decide) (by decide)) q565a q565c (g := (mkF m 10 #[.val (.ref a2), .val (.ref a1), .val .null, .val (.ref t1), .unset] [(.ref a1)])) rfl (by rw [hml]; rfl) (Steps.refl _) (argsL := []) (rest := []) (lenOf sia14_pd1 rfl) rfl (by show 2 * 0 + _ ≤ _; exact Nat.le_of_eq rfl) (hb hby sia14_d10) (fun _ _ => ⟨rfl, hh564, Nat.le_of_ble_eq_true rfl, Nat.le_of_ble_eq_true rfl⟩)
  dsimp only [Pt.U, Pt.locs, Pt.cells, Pt.slots] at X565 l565 y565 z565 st565 hQ565
  subst l565 y565 z565
  obtain ⟨rfl, N565q, hh565⟩ := hQ565
  refine own_seq st565 ?_
  have N565 := Fr.app N564 N565q
  show OwnGo p e below (T565.setTop (mkF m 13 #[.val (.ref a2), .val (.ref a1), .val .null, .val (.ref t1), .unset] [(.int (14 : Int32))])) _
  refine own_back (fun t k => XS.istore X565.here hx rfl (hb hby sia14_d13) rfl (l' := #[.val (.ref a2), .val (.ref a1), .val .null, .val (.ref t1), .val (.int (14 : Int32))]) rfl k) ?_
  show OwnGo p e below (T565.setTop (mkF m 15 #[.val (.ref a2), .val (.ref a1), .val .null, .val (.ref t1), .val (.int (14 : Int32))] [])) _
  refine own_back (fun t k => XS.aloadN X565.here hx rfl (hb hby sia14_d15) rfl rfl k) ?_
  show OwnGo p e below (T565.setTop (mkF m 16 #[.val (.ref a2), .val (.ref a1), .val .null, .val (.ref t1), .val (.int (14 : Int32))] [(.ref a1)])) _
  obtain ⟨cq566, kq566, q566a, q566b, q566c⟩ := isOf hZ hh565 E1
  obtain ⟨_, _, ⟨T566, L566, k566, n566⟩, -, X566, ⟨Lc566, hQ566, l566, y566, z566⟩, st566⟩ := X565.virtualBack hx (y := (⟨"java/lang/AbstractStringBuilder", "isLatin1", "()Z"⟩ : MethodName)) (z := (⟨"java/lang/AbstractStringBuilder", "isLatin1", "()Z"⟩ : MethodName)) hown (mvT hZ (hw _ (List.mem_of_getElem? (i := 264) rfl))) (mvT hZ (hw _ (List.mem_of_getElem? (i := 226) rfl))) (notFace_of_selects (args := #[]) (mvT hZ (hw _ (List.mem_of_getElem? (i := 228) rfl)))) (mvT hZ (hw _ (List.mem_of_getElem? (i := 228) rfl))) (mvT hZ (hw _ (List.mem_of_getElem? (i := 227) rfl))) (by decide) (own_backN (W := 0) (rm_bl1 l Z a0 hw [] a1 cz h0 n0 Z0 OL C1 SC hcz) hZ (hw _ (List.mem_of_getElem? (i := 229) rfl)) (hw _ (List.mem_of_getElem? (i := 71) rfl)) (by decide) (by decide)) q566a q566c (g := (mkF m 16 #[.val (.ref a2), .val (.ref a1), .val .null, .val (.ref t1), .val (.int (14 : Int32))] [(.ref a1)])) rfl (by rw [hml]; rfl) (Steps.refl _) (argsL := []) (rest := []) (lenOf sia14_pd2 rfl) rfl (by show 2 * 0 + _ ≤ _; exact Nat.le_of_eq rfl) (hb hby sia14_d16) (fun _ _ => ⟨rfl, hh565, Nat.le_of_ble_eq_true rfl, Nat.le_of_ble_eq_true rfl⟩)
  dsimp only [Pt.U, Pt.locs, Pt.cells, Pt.slots] at X566 l566 y566 z566 st566 hQ566
  subst l566 y566 z566
  obtain ⟨rfl, N566q, hh566⟩ := hQ566
  refine own_seq st566 ?_
  have N566 := Fr.app N565 N566q
  show OwnGo p e below (T566.setTop (mkF m 19 #[.val (.ref a2), .val (.ref a1), .val .null, .val (.ref t1), .val (.int (14 : Int32))] [(.int (1 : Int32))])) _
  refine own_back (fun t k => XS.ifNo X566.here hx rfl (hb hby sia14_d19) rfl (Jvm.Free.XT.i0_eq_f (by decide)) k) ?_
  show OwnGo p e below (T566.setTop (mkF m 22 #[.val (.ref a2), .val (.ref a1), .val .null, .val (.ref t1), .val (.int (14 : Int32))] [])) _
  refine own_back (fun t k => XS.aloadN X566.here hx rfl (hb hby sia14_d22) rfl rfl k) ?_
  show OwnGo p e below (T566.setTop (mkF m 23 #[.val (.ref a2), .val (.ref a1), .val .null, .val (.ref t1), .val (.int (14 : Int32))] [(.ref a2)])) _
  refine own_back (fun t k => XS.iconst X566.here hx rfl (hb hby sia14_d23) k) ?_
  show OwnGo p e below (T566.setTop (mkF m 24 #[.val (.ref a2), .val (.ref a1), .val .null, .val (.ref t1), .val (.int (14 : Int32))] [(.int (0 : Int32)), (.ref a2)])) _
  obtain ⟨T567, h567, X567, e567, W567, st567⟩ := putF X566 hx hZ hown (host := "") (Or.inl (hw _ (List.mem_of_getElem? (i := 101) rfl))) Via.refl hh566 C2 E2 (Or.inr ⟨(hw _ (List.mem_of_getElem? (i := 14) rfl)), rfl, hnm⟩) (hw _ (List.mem_of_getElem? (i := 11) rfl)) (ty := .byte) (by decide) rfl rfl (g := (mkF m 24 #[.val (.ref a2), .val (.ref a1), .val .null, .val (.ref t1), .val (.int (14 : Int32))] [(.int (0 : Int32)), (.ref a2)])) rfl rfl (hb hby sia14_d24)
  have O568 := OL.wr W567 g2
  have KP569 := KP0.wr W567 (Or.inl (List.mem_of_getElem? (i := 0) rfl))
  have Zs570 := Nat.le_trans Z0 (Keep.of_wr W567).1
  have f571 := E1.wr W567
  have f572 := E2.wr W567
  have f573 := F2.other W567 (Or.inr (slot_ne (Or.inr (hw _ (List.mem_of_getElem? (i := 13) rfl))) (Or.inr (hw _ (List.mem_of_getElem? (i := 14) rfl))) (by decide) (t := (.array .byte)) (t' := .byte) (by decide) (by decide)))
  have f574 := V1.other W567 ne2
  have f575 := X1.wr W567
  have F576 := C2.same W567
  have N577 := Fr.snoc X567 N566 g2
  refine own_back st567 ?_
  show OwnGo p e below (T567.setTop (mkF m 27 #[.val (.ref a2), .val (.ref a1), .val .null, .val (.ref t1), .val (.int (14 : Int32))] [])) _
  refine own_back (fun t k => XS.aloadN X567.here hx rfl (hb hby sia14_d27) rfl rfl k) ?_
  show OwnGo p e below (T567.setTop (mkF m 28 #[.val (.ref a2), .val (.ref a1), .val .null, .val (.ref t1), .val (.int (14 : Int32))] [(.ref a2)])) _
  refine own_back (fun t k => XS.aloadN X567.here hx rfl (hb hby sia14_d28) rfl rfl k) ?_
  show OwnGo p e below (T567.setTop (mkF m 29 #[.val (.ref a2), .val (.ref a1), .val .null, .val (.ref t1), .val (.int (14 : Int32))] [(.ref t1), (.ref a2)])) _
  refine own_back (fun t k => XS.iconst X567.here hx rfl (hb hby sia14_d29) k) ?_
  show OwnGo p e below (T567.setTop (mkF m 30 #[.val (.ref a2), .val (.ref a1), .val .null, .val (.ref t1), .val (.int (14 : Int32))] [(.int (0 : Int32)), (.ref t1), (.ref a2)])) _
  refine own_back (fun t k => XS.iload X567.here hx rfl (hb hby sia14_d30) rfl k) ?_
  show OwnGo p e below (T567.setTop (mkF m 32 #[.val (.ref a2), .val (.ref a1), .val .null, .val (.ref t1), .val (.int (14 : Int32))] [(.int (14 : Int32)), (.int (0 : Int32)), (.ref t1), (.ref a2)])) _
  obtain ⟨_, _, ⟨T578, L578, k578, n578⟩, -, X578, ⟨Lc578, hQ578, l578, y578, z578⟩, st578⟩ := Jvm.LawKit.callS X567 hx (y := (⟨"java/util/Arrays", "copyOfRange", "([BII)[B"⟩ : MethodName)) hown (mvT hZ (hw _ (List.mem_of_getElem? (i := 265) rfl))) (mvT hZ (hw _ (List.mem_of_getElem? (i := 266) rfl))) (mvT hZ (hw _ (List.mem_of_getElem? (i := 267) rfl))) (mvT hZ (hw _ (List.mem_of_getElem? (i := 268) rfl))) (by decide) (own_backN (W := 1) (rm_cor14 l Z a0 hw [] t1 k1 x0 x1 x2 x3 x4 x5 x6 x7 x8 x9 x10 x11 x12 x13 x14 x15 h567 n0 Zs570 O568 f574 f575) hZ (hw _ (List.mem_of_getElem? (i := 268) rfl)) (hw _ (List.mem_of_getElem? (i := 267) rfl)) (by decide) (by decide)) (g := (mkF m 32 #[.val (.ref a2), .val (.ref a1), .val .null, .val (.ref t1), .val (.int (14 : Int32))] [(.int (14 : Int32)), (.int (0 : Int32)), (.ref t1), (.ref a2)])) rfl (by rw [hml]; rfl) (argsL := [(.ref t1), (.int (0 : Int32)), (.int (14 : Int32))]) (rest := [(.ref a2)]) (lenOf sia14_pd3 rfl) rfl (by show 2 * 0 + _ ≤ _; exact Nat.le_of_eq rfl) (hb hby sia14_d32) (fun _ _ => ⟨rfl, e567, Nat.le_of_ble_eq_true rfl, Nat.le_of_ble_eq_true rfl⟩)
  dsimp only [Pt.U, Pt.locs, Pt.cells, Pt.slots] at X578 l578 y578 z578 st578 hQ578
  subst l578 y578 z578
  obtain ⟨bq578, kq578, rfl, N578q, E578, g578, z578, V578⟩ := hQ578
  refine own_back st578 ?_
  have N578 := Fr.app N577 N578q
  have O579 := O568.ext E578
  have KP580 := KP569.ext E578
  have Zs581 := Nat.le_trans Zs570 E578.1
  have f582 := f571.ext E578
  have f583 := f572.ext E578
  have f584 := f573.ext E578
  have f585 := f574.ext E578
  have f586 := f575.ext E578
  have f587 := F576.ext E578
  have ne3578 := own_exaarv V578 f583 (hw _ (List.mem_of_getElem? (i := 11) rfl))
  show OwnGo p e below (T578.setTop (mkF m 35 #[.val (.ref a2), .val (.ref a1), .val .null, .val (.ref t1), .val (.int (14 : Int32))] [(.ref bq578), (.ref a2)])) _
  obtain ⟨T588, h588, X588, e588, W588, st588⟩ := putF X578 hx hZ hown (host := "") (Or.inl (hw _ (List.mem_of_getElem? (i := 94) rfl))) Via.refl rfl f584 f583 (Or.inr ⟨(hw _ (List.mem_of_getElem? (i := 13) rfl)), rfl, hnm⟩) (hw _ (List.mem_of_getElem? (i := 11) rfl)) (ty := (.array .byte)) (by decide) rfl rfl (g := (mkF m 35 #[.val (.ref a2), .val (.ref a1), .val .null, .val (.ref t1), .val (.int (14 : Int32))] [(.ref bq578), (.ref a2)])) rfl rfl (hb hby sia14_d35)
  have O589 := O579.wr W588 g2
  have KP590 := KP580.wr W588 (Or.inl (List.mem_of_getElem? (i := 0) rfl))
  have Zs591 := Nat.le_trans Zs581 (Keep.of_wr W588).1
  have f592 := f582.wr W588
  have f593 := f583.wr W588
  have f594 := f585.other W588 ne2
  have f595 := f586.wr W588
  have f596 := f587.other W588 (Or.inr (slot_ne (Or.inr (hw _ (List.mem_of_getElem? (i := 14) rfl))) (Or.inr (hw _ (List.mem_of_getElem? (i := 13) rfl))) (by decide) (t := .byte) (t' := (.array .byte)) (by decide) (by decide)))
  have f597 := V578.other W588 ne3578
  have F598 := f584.same W588
  have N599 := Fr.snoc X588 N578 g2
  refine own_back st588 ?_
  show OwnGo p e below (T588.setTop (mkF m 38 #[.val (.ref a2), .val (.ref a1), .val .null, .val (.ref t1), .val (.int (14 : Int32))] [])) _
  refine own_back (fun t k => XS.goto X588.here hx rfl (pc0 := 38) (pc' := 97) rfl (hb hby sia14_d38) (by decide) (by decide) k) ?_
  show OwnGo p e below (T588.setTop (mkF m 97 #[.val (.ref a2), .val (.ref a1), .val .null, .val (.ref t1), .val (.int (14 : Int32))] [])) _
  refine own_retV X588 hx Bd.notSynchronized Bd.returns (hb hby sia14_d97) e588 (Nat.le_of_ble_eq_true rfl) (Nat.le_of_ble_eq_true rfl) ?_
  exact ⟨rfl, N599, KP590, bq578, _, f593, f596, F598, f597, Nat.le_of_ble_eq_true rfl⟩
theorem sis14_d0 : decode jdk_42_method_53_code 0 = .ok (.aload_n 0, 1) := by decide +kernel
theorem sis14_d1 : decode jdk_42_method_53_code 1 = .ok (.aload_n 1, 1) := by decide +kernel
theorem sis14_d2 : decode jdk_42_method_53_code 2 = .ok (.aconst_null, 1) := by decide +kernel
theorem sis14_d3 : decode jdk_42_method_53_code 3 = .ok (.invokespecial 489, 3) := by decide +kernel
theorem sis14_d6 : decode jdk_42_method_53_code 6 = .ok (.return_, 1) := by decide +kernel
theorem sis14_pn : plainName "java/lang/String" = true := by first | (simp [plainName, overriddenIn]; done) | decide +kernel
theorem sis14_pd0 : parseMethodDescriptor "(Ljava/lang/AbstractStringBuilder;Ljava/lang/Void;)V" = some ⟨[(.object "java/lang/AbstractStringBuilder"), (.object "java/lang/Void")], none⟩ := by decide +kernel
theorem sis14_ef (m : MethodId) (x0 : Addr) (x1 : Addr) : entryFrame m #[(.ref x0), (.ref x1)] 2 = mkF m 0 #[.val (.ref x0), .val (.ref x1)] [] := by first | (simp [entryFrame, mkF, argsToLocals, Value.category]; done) | rfl
set_option maxRecDepth 65536 in
set_option maxHeartbeats 40000000 in
theorem rm_sis14 (l : Launch) (Z : State) (a0 : Array Value) (hw : ∀ d ∈ tables_1, d.before a0 Z = true) (ws : List Jvm.Cond) (a2 : Addr) (a1 : Addr) (t1 : Addr) (x0 : Int32) (x1 : Int32) (x2 : Int32) (x3 : Int32) (x4 : Int32) (x5 : Int32) (x6 : Int32) (x7 : Int32) (x8 : Int32) (x9 : Int32) (x10 : Int32) (x11 : Int32) (x12 : Int32) (x13 : Int32) (x14 : Int32) (x15 : Int32) (cz : Int32) (h0 : Heap) (n0 : Nat) (Z0 : n0 ≤ h0.size) (OL : Old Z n0 h0) (E2 : Exa Z h0 a2 "java/lang/String") (C2 : Fld Z h0 a2 "java/lang/String" "coder" "B" (.int 0)) (F2 : Fld Z h0 a2 "java/lang/String" "value" "[B" .null) (g2 : n0 ≤ a2) (B1 : OwnBd Z h0 a1 t1 [x0, x1, x2, x3, x4, x5, x6, x7, x8, x9, x10, x11, x12, x13, x14, x15] 14) (SC : Sta Z Z.heap "java/lang/String" "COMPACT_STRINGS" "Z" (.int cz)) (hcz : ¬ cz = 0) :
    MetFree l (⟨"java/lang/String", "<init>", "(Ljava/lang/StringBuilder;)V"⟩ : MethodName) (head1 (Jvm.Cond.code (⟨"java/lang/String", "<init>", "(Ljava/lang/StringBuilder;)V"⟩ : MethodName) jdk_42_method_53_code 2 none :: ws) ({ frames := 4, cells := 1, slots := 16, locals := 130 } : Room)) (fun a U => a = #[(.ref a2), (.ref a1)] ∧ Z.Warmed39 U.vm ∧ U.heap = h0) (fun _ _ _ _ _ => True) (fun _ U o U' => OwnEnd U (fun v h L => v = none ∧ Fr n0 L ∧ Keep h0 h [a2] ∧ OwnStr Z h a2 [x0, x1, x2, x3, x4, x5, x6, x7, x8, x9, x10, x11, x12, x13]) ({ frames := 4, cells := 1, slots := 16, locals := 130 } : Room).cells ({ frames := 4, cells := 1, slots := 16, locals := 130 } : Room).slots o U') := by
  refine MetFree.of_bodySF (plainFor_of_name sis14_pn) hisR ?_
  intro p e s m args below meth c s₁ Bd hml0 hP hK
  obtain ⟨rfl, hZ, hh⟩ := hP
  have hx := Bd.exec
  have hby := Bd.bytes
  have hml : c.maxLocals = 2 := hml0
  have hown : s.vm.findClass "java/lang/String" = some m.cls := findClass_of_methodNamed Bd.named
  have hnm := (name_of_methodNamed Bd.named Bd.method).1
  have X0 : Stand p l e ({ frames := 4, cells := 1, slots := 16, locals := 130 } : Room) s m #[(.ref a2), (.ref a1)] below meth c s₁ [] 0 0 := Stand.of_body Bd
  have e0 : s₁.heap = h0 := by rw [← hh, Bd.state]; rfl
  have N0 := Fr.nil n0
  have KP0 := Keep.refl h0 [a2]
  refine own_go (Q := (OwnEnd s (fun v h L => v = none ∧ Fr n0 L ∧ Keep h0 h [a2] ∧ OwnStr Z h a2 [x0, x1, x2, x3, x4, x5, x6, x7, x8, x9, x10, x11, x12, x13]) ({ frames := 4, cells := 1, slots := 16, locals := 130 } : Room).cells ({ frames := 4, cells := 1, slots := 16, locals := 130 } : Room).slots)) ?_
  refine own_back (fun t k => castTop (sis14_ef m a2 a1) k) ?_
  show OwnGo p e below (s₁.setTop (mkF m 0 #[.val (.ref a2), .val (.ref a1)] [])) _
  refine own_back (fun t k => XS.aloadN X0.here hx rfl (hb hby sis14_d0) rfl rfl k) ?_
  show OwnGo p e below (s₁.setTop (mkF m 1 #[.val (.ref a2), .val (.ref a1)] [(.ref a2)])) _
  refine own_back (fun t k => XS.aloadN X0.here hx rfl (hb hby sis14_d1) rfl rfl k) ?_
  show OwnGo p e below (s₁.setTop (mkF m 2 #[.val (.ref a2), .val (.ref a1)] [(.ref a1), (.ref a2)])) _
  refine own_back (fun t k => XS.aconstNull X0.here hx rfl (hb hby sis14_d2) k) ?_
  show OwnGo p e below (s₁.setTop (mkF m 3 #[.val (.ref a2), .val (.ref a1)] [.null, (.ref a1), (.ref a2)])) _
  obtain ⟨_, _, ⟨T600, L600, k600, n600⟩, -, X600, ⟨Lc600, hQ600, l600, y600, z600⟩, st600⟩ := X0.specialBack hx (y := (⟨"java/lang/String", "<init>", "(Ljava/lang/AbstractStringBuilder;Ljava/lang/Void;)V"⟩ : MethodName)) rfl hown (mvT hZ (hw _ (List.mem_of_getElem? (i := 247) rfl))) (mvT hZ (hw _ (List.mem_of_getElem? (i := 248) rfl))) (mvT hZ (hw _ (List.mem_of_getElem? (i := 249) rfl))) (by decide) (own_backN (W := 0) (rm_sia14 l Z a0 hw [] a2 a1 t1 x0 x1 x2 x3 x4 x5 x6 x7 x8 x9 x10 x11 x12 x13 x14 x15 cz h0 n0 Z0 OL E2 C2 F2 g2 B1 SC hcz) hZ (hw _ (List.mem_of_getElem? (i := 249) rfl)) (hw _ (List.mem_of_getElem? (i := 10) rfl)) (by decide) (by decide)) (g := (mkF m 3 #[.val (.ref a2), .val (.ref a1)] [.null, (.ref a1), (.ref a2)])) rfl (by rw [hml]; rfl) (Steps.refl _) (a := a2) (argsL := [(.ref a1), .null]) (rest := []) (lenOf sis14_pd0 rfl) rfl (by show 2 * 0 + _ ≤ _; exact Nat.le_of_eq rfl) (hb hby sis14_d3) (fun _ _ => ⟨rfl, e0, Nat.le_of_ble_eq_true rfl, Nat.le_of_ble_eq_true rfl⟩)
  dsimp only [Pt.U, Pt.locs, Pt.cells, Pt.slots] at X600 l600 y600 z600 st600 hQ600
  subst l600 y600 z600
  obtain ⟨rfl, N600q, K600, Q600⟩ := hQ600
  refine own_seq st600 ?_
  have N600 := Fr.app N0 N600q
  have O601 := OL.keep K600 (allS g2 all0)
  have KP602 := KP0.trans K600 (allS (Or.inl (List.mem_of_getElem? (i := 0) rfl)) all0)
  have Zs603 := Nat.le_trans Z0 K600.1
  show OwnGo p e below (T600.setTop (mkF m 6 #[.val (.ref a2), .val (.ref a1)] [])) _
  refine own_retV X600 hx Bd.notSynchronized Bd.returns (hb hby sis14_d6) rfl (Nat.le_of_ble_eq_true rfl) (Nat.le_of_ble_eq_true rfl) ?_
  exact ⟨rfl, N600, KP602, Q600⟩
theorem sts14_d0 : decode jdk_67_method_42_code 0 = .ok (.new 18, 3) := by decide +kernel
theorem sts14_d3 : decode jdk_67_method_42_code 3 = .ok (.dup, 1) := by decide +kernel
theorem sts14_d4 : decode jdk_67_method_42_code 4 = .ok (.aload_n 0, 1) := by decide +kernel
theorem sts14_d5 : decode jdk_67_method_42_code 5 = .ok (.invokespecial 137, 3) := by decide +kernel
theorem sts14_d8 : decode jdk_67_method_42_code 8 = .ok (.areturn, 1) := by decide +kernel
theorem sts14_pn : plainName "java/lang/StringBuilder" = true := by first | (simp [plainName, overriddenIn]; done) | decide +kernel
theorem sts14_pd0 : parseMethodDescriptor "(Ljava/lang/StringBuilder;)V" = some ⟨[(.object "java/lang/StringBuilder")], none⟩ := by decide +kernel
theorem sts14_ef (m : MethodId) (x0 : Addr) : entryFrame m #[(.ref x0)] 1 = mkF m 0 #[.val (.ref x0)] [] := by first | (simp [entryFrame, mkF, argsToLocals, Value.category]; done) | rfl
set_option maxRecDepth 65536 in
set_option maxHeartbeats 40000000 in
theorem rm_sts14 (l : Launch) (Z : State) (a0 : Array Value) (hw : ∀ d ∈ tables_1, d.before a0 Z = true) (ws : List Jvm.Cond) (a1 : Addr) (t1 : Addr) (x0 : Int32) (x1 : Int32) (x2 : Int32) (x3 : Int32) (x4 : Int32) (x5 : Int32) (x6 : Int32) (x7 : Int32) (x8 : Int32) (x9 : Int32) (x10 : Int32) (x11 : Int32) (x12 : Int32) (x13 : Int32) (x14 : Int32) (x15 : Int32) (cz : Int32) (h0 : Heap) (n0 : Nat) (Z0 : n0 ≤ h0.size) (OL : Old Z n0 h0) (B1 : OwnBd Z h0 a1 t1 [x0, x1, x2, x3, x4, x5, x6, x7, x8, x9, x10, x11, x12, x13, x14, x15] 14) (SC : Sta Z Z.heap "java/lang/String" "COMPACT_STRINGS" "Z" (.int cz)) (hcz : ¬ cz = 0) :
    MetFree l (⟨"java/lang/StringBuilder", "toString", "()Ljava/lang/String;"⟩ : MethodName) (head1 (Jvm.Cond.code (⟨"java/lang/StringBuilder", "toString", "()Ljava/lang/String;"⟩ : MethodName) jdk_67_method_42_code 1 (some (.object "java/lang/String")) :: ws) ({ frames := 5, cells := 2, slots := 24, locals := 150 } : Room)) (fun a U => a = #[(.ref a1)] ∧ Z.Warmed39 U.vm ∧ U.heap = h0) (fun _ _ _ _ _ => True) (fun _ U o U' => OwnEnd U (fun v h L => ∃ a, v = some (.ref a) ∧ Fr n0 L ∧ Ext h0 h ∧ OwnStr Z h a [x0, x1, x2, x3, x4, x5, x6, x7, x8, x9, x10, x11, x12, x13]) ({ frames := 5, cells := 2, slots := 24, locals := 150 } : Room).cells ({ frames := 5, cells := 2, slots := 24, locals := 150 } : Room).slots o U') := by
  refine MetFree.of_bodySF (plainFor_of_name sts14_pn) hisR ?_
  intro p e s m args below meth c s₁ Bd hml0 hP hK
  obtain ⟨rfl, hZ, hh⟩ := hP
  have hx := Bd.exec
  have hby := Bd.bytes
  have hml : c.maxLocals = 1 := hml0
  have hown : s.vm.findClass "java/lang/StringBuilder" = some m.cls := findClass_of_methodNamed Bd.named
  have hnm := (name_of_methodNamed Bd.named Bd.method).1
  have X0 : Stand p l e ({ frames := 5, cells := 2, slots := 24, locals := 150 } : Room) s m #[(.ref a1)] below meth c s₁ [] 0 0 := Stand.of_body Bd
  have e0 : s₁.heap = h0 := by rw [← hh, Bd.state]; rfl
  have N0 := Fr.nil n0
  have KP0 := Keep.refl h0 []
  refine own_go (Q := (OwnEnd s (fun v h L => ∃ a, v = some (.ref a) ∧ Fr n0 L ∧ Ext h0 h ∧ OwnStr Z h a [x0, x1, x2, x3, x4, x5, x6, x7, x8, x9, x10, x11, x12, x13]) ({ frames := 5, cells := 2, slots := 24, locals := 150 } : Room).cells ({ frames := 5, cells := 2, slots := 24, locals := 150 } : Room).slots)) ?_
  refine own_back (fun t k => castTop (sts14_ef m a1) k) ?_
  show OwnGo p e below (s₁.setTop (mkF m 0 #[.val (.ref a1)] [])) _
  obtain ⟨T604, h604, X604, e604, E604, A604, D604, -, st604⟩ := newO X0 hx hZ hown (hw _ (List.mem_of_getElem? (i := 242) rfl)) (hw _ (List.mem_of_getElem? (i := 11) rfl)) (hw _ (List.mem_of_getElem? (i := 10) rfl)) e0 (g := (mkF m 0 #[.val (.ref a1)] [])) rfl (hb hby sts14_d0) (Nat.le_of_ble_eq_true rfl) (Nat.le_of_ble_eq_true rfl)
  obtain ⟨b604, g604⟩ : ∃ z, z = h0.size := ⟨_, rfl⟩
  have ge605 : n0 ≤ b604 := Nat.le_trans Z0 (Nat.le_of_eq g604.symm)
  have sz606 : h0.size ≤ b604 := Nat.le_trans KP0.1 (Nat.le_of_eq g604.symm)
  rw [← g604] at A604 D604 st604
  have O607 := OL.ext E604
  have KP608 := KP0.ext E604
  have Zs609 := Nat.le_trans Z0 E604.1
  have F610 : Fld Z h604 b604 "java/lang/String" "value" "[B" .null := D604 (Or.inr (hw _ (List.mem_of_getElem? (i := 13) rfl))) (ty := (.array .byte)) (by decide)
  have F611 : Fld Z h604 b604 "java/lang/String" "coder" "B" (.int (0 : Int32)) := D604 (Or.inr (hw _ (List.mem_of_getElem? (i := 14) rfl))) (ty := .byte) (by decide)
  refine own_back st604 ?_
  show OwnGo p e below (T604.setTop (mkF m 3 #[.val (.ref a1)] [(.ref b604)])) _
  refine own_back (fun t k => XS.dup X604.here hx rfl (hb hby sts14_d3) rfl rfl k) ?_
  show OwnGo p e below (T604.setTop (mkF m 4 #[.val (.ref a1)] [(.ref b604), (.ref b604)])) _
  refine own_back (fun t k => XS.aloadN X604.here hx rfl (hb hby sts14_d4) rfl rfl k) ?_
  show OwnGo p e below (T604.setTop (mkF m 5 #[.val (.ref a1)] [(.ref a1), (.ref b604), (.ref b604)])) _
  obtain ⟨_, _, ⟨T612, L612, k612, n612⟩, -, X612, ⟨Lc612, hQ612, l612, y612, z612⟩, st612⟩ := X604.specialBack hx (y := (⟨"java/lang/String", "<init>", "(Ljava/lang/StringBuilder;)V"⟩ : MethodName)) rfl hown (mvT hZ (hw _ (List.mem_of_getElem? (i := 243) rfl))) (mvT hZ (hw _ (List.mem_of_getElem? (i := 244) rfl))) (mvT hZ (hw _ (List.mem_of_getElem? (i := 246) rfl))) (by decide) (own_backN (W := 1) (rm_sis14 l Z a0 hw [] b604 a1 t1 x0 x1 x2 x3 x4 x5 x6 x7 x8 x9 x10 x11 x12 x13 x14 x15 cz h604 n0 Zs609 O607 A604 F611 F610 ge605 (OwnBd.ext (own_ext KP608) B1) SC hcz) hZ (hw _ (List.mem_of_getElem? (i := 246) rfl)) (hw _ (List.mem_of_getElem? (i := 10) rfl)) (by decide) (by decide)) (g := (mkF m 5 #[.val (.ref a1)] [(.ref a1), (.ref b604), (.ref b604)])) rfl (by rw [hml]; rfl) (Steps.refl _) (a := b604) (argsL := [(.ref a1)]) (rest := [(.ref b604)]) (lenOf sts14_pd0 rfl) rfl (by show 2 * 0 + _ ≤ _; exact Nat.le_of_eq rfl) (hb hby sts14_d5) (fun _ _ => ⟨rfl, e604, Nat.le_of_ble_eq_true rfl, Nat.le_of_ble_eq_true rfl⟩)
  dsimp only [Pt.U, Pt.locs, Pt.cells, Pt.slots] at X612 l612 y612 z612 st612 hQ612
  subst l612 y612 z612
  obtain ⟨rfl, N612q, K612, Q612⟩ := hQ612
  refine own_seq st612 ?_
  have N612 := Fr.app N0 N612q
  have O613 := O607.keep K612 (allS ge605 all0)
  have KP614 := KP608.trans K612 (allS (Or.inr sz606) all0)
  have Zs615 := Nat.le_trans Zs609 K612.1
  have f616 := A604.keep K612
  show OwnGo p e below (T612.setTop (mkF m 8 #[.val (.ref a1)] [(.ref b604)])) _
  refine own_retA X612 hx Bd.notSynchronized Bd.returns rfl rfl (hb hby sts14_d8) rfl (Nat.le_of_ble_eq_true rfl) (Nat.le_of_ble_eq_true rfl) ?_
  exact ⟨_, rfl, N612, own_ext KP614, Q612⟩
theorem own_bdcast {Z : State} {h : Heap} {a t : Addr} {us us' : List Int32} {n n' : Nat} (e1 : us = us') (e2 : n = n') (B : OwnBd Z h a t us n) : OwnBd Z h a t us' n' := by subst e1 e2; exact B
theorem OwnBd.ltT {Z : State} {h : Heap} {a t : Addr} {us : List Int32} {n : Nat} (B : OwnBd Z h a t us n) : t < h.size := by
  obtain ⟨k, -, -, -, -, V, -⟩ := B
  exact V.lt
theorem own_bm (x : Int) (h1 : -9223372036854775808 ≤ x) (h2 : x < 9223372036854775808) : x.bmod (2 ^ 64) = x := Int.bmod_eq_of_le (by omega) (by omega)
theorem own_day (q : Int64) (h0 : ¬ q < 0) (h1 : q < 253402300800000) : ¬ q < (q / 86400000 * 86400000 + 86400000) - 86400000 ∧ q < q / 86400000 * 86400000 + 86400000 := by
  have a0 : 0 ≤ q.toInt := by rw [Int64.lt_iff_toInt_lt] at h0; have z : (0 : Int64).toInt = 0 := rfl; omega
  have a1 : q.toInt < 253402300800000 := by rw [Int64.lt_iff_toInt_lt] at h1; exact h1
  have hd : (q / 86400000).toInt = q.toInt / 86400000 := by
    rw [Int64.toInt_div_of_ne_right q 86400000 (by decide)]
    exact Int.tdiv_eq_ediv_of_nonneg a0
  have e : ((86400000 : Int64)).toInt = 86400000 := rfl
  have hm : (q / 86400000 * 86400000).toInt = q.toInt / 86400000 * 86400000 := by
    rw [Int64.toInt_mul, hd, e]; exact own_bm _ (by omega) (by omega)
  have ha : (q / 86400000 * 86400000 + 86400000).toInt = q.toInt / 86400000 * 86400000 + 86400000 := by
    rw [Int64.toInt_add, hm, e]; exact own_bm _ (by omega) (by omega)
  have hs : (q / 86400000 * 86400000 + 86400000 - 86400000).toInt = q.toInt / 86400000 * 86400000 := by
    rw [Int64.toInt_sub, ha, e, Int.add_sub_cancel]; exact own_bm _ (by omega) (by omega)
  constructor
  · rw [Int64.lt_iff_toInt_lt, hs]; omega
  · rw [Int64.lt_iff_toInt_lt, ha]; omega
theorem own_inst (x : Int64) : ¬ ((x &&& (9223372036854775807 : Int64)) % (253402300800000 : Int64)) < 0 ∧ ((x &&& (9223372036854775807 : Int64)) % (253402300800000 : Int64)) < 253402300800000 := by
  have hn : 0 ≤ (x &&& (9223372036854775807 : Int64)).toInt := by
    have : ¬ (x &&& (9223372036854775807 : Int64)) < 0 := by
      have q : (x &&& (9223372036854775807 : Int64)).toBitVec.msb = false := by
        rw [Int64.toBitVec_and, BitVec.msb_and]
        rw [show ((9223372036854775807 : Int64)).toBitVec.msb = false from by decide]; simp
      rw [Int64.lt_iff_toBitVec_slt, BitVec.slt_eq_decide]
      have z : (0 : Int64).toBitVec.toInt = 0 := by decide
      rw [z]
      have := BitVec.msb_eq_toInt (x := (x &&& (9223372036854775807 : Int64)).toBitVec)
      rw [q] at this
      simpa using this
    rw [Int64.lt_iff_toInt_lt] at this
    have z : (0 : Int64).toInt = 0 := rfl
    omega
  have hm : ((x &&& (9223372036854775807 : Int64)) % (253402300800000 : Int64)).toInt = (x &&& (9223372036854775807 : Int64)).toInt % 253402300800000 := by
    rw [Int64.toInt_mod]
    exact Int.tmod_eq_emod_of_nonneg hn
  rw [Int64.lt_iff_toInt_lt, Int64.lt_iff_toInt_lt, hm]
  have z : (0 : Int64).toInt = 0 := rfl
  have e : (253402300800000 : Int64).toInt = 253402300800000 := rfl
  omega
theorem own_num (x d : Int64) : (x - (0 : Int64)) / d = x / d := by rw [Int64.sub_zero]
theorem own_pend (y d : Int64) : ((0 : Int64) + ((y + (1 : Int64)) * d)) = (y * d) + d := by rw [Int64.zero_add, Int64.add_mul, Int64.one_mul]
section OwnDigits
variable {s : State} {args a0 : Array Value} {t u : Term} {a : Addr}
theorem own_eqv {first : State} {o : Option Outcome} {idx : List Nat} {k : Int32} (hu : u.eval args first o idx s = some (.int k)) (h : (Cond.eq t u).value args first o s idx = some true) : t.eval args first o idx s = some (.int k) := by
  cases ha : t.eval args first o idx s with
  | none => simp [Cond.value, ha] at h
  | some x =>
    cases x <;> simp [Cond.value, ha, hu, Value.isRef] at h ⊢
    exact h
theorem own_eqlong {first : State} {o : Option Outcome} {idx : List Nat} {k : Int64} (h : (Cond.eq t (.long k)).value args first o s idx = some true) : t.eval args first o idx s = some (.long k) := by
  cases ha : t.eval args first o idx s with
  | none => simp [Cond.value, ha] at h
  | some x =>
    have hb : (Term.long k).eval args first o idx s = some (.long k) := by simp [Term.eval]
    cases x <;> simp [Cond.value, ha, hb, Value.isRef] at h ⊢
    exact h
/-- a table of bytes that the sheet gives element by element -/
theorem own_digits {C n d : String} {F : Term} {f : Nat → Int32} (ev : (Term.static C n d).eval args s none [] s = some (.ref a)) (hx : (Cond.exactly (.static C n d) "[B").value args s none s [] = some true) (wa : (Cond.arrayClass .byte).before a0 s = true)
    (hl : (Cond.eq (.length (.static C n d)) (.int (100 : Int32))).value args s none s [] = some true) (hall : (Cond.all (.static C n d) (.eq (.elem (.static C n d) (.index 0)) F)).value args s none s [] = some true)
    (hF : ∀ i, i < 100 → F.eval args s none [i] s = some (.int (f i))) {vs : List Value} (hvs : ∀ i, i < 100 → vs.getD i (.int 0) = .int (f i)) (hfits : ∀ i, i < 100 → fits .byte (vs.getD i (.int 0)) = true) : ∃ k, Arv s s.heap a k .byte (100 : Int32) vs (.int 0) := by
  have e := own_eqint hl
  cases ha : s.arrayAt? a with
  | none => simp [Term.eval] at e ev; simp [ev, ha] at e
  | some c =>
    obtain ⟨cell, k, h1, h2, h3, h4, -⟩ := Exa.start ev hx
    obtain ⟨cA, kA, comp, g1, g2, g3⟩ := Cond.arrayClass_spec wa
    have g1 : s.vm.findClass "[B" = some cA := g1
    cases h2.symm.trans g1
    cases h3.symm.trans g2
    have hun : cell.vm ≠ .unknown ∧ c = cell := by
      unfold State.arrayAt? at ha
      simp only [h1, h3, Option.bind_eq_bind, Option.bind_some] at ha
      by_cases hu : cell.vm = .unknown ∨ cell.vm.isStatics = true
      · rw [if_pos hu] at ha; cases ha
      · rw [if_neg hu, g3] at ha
        exact ⟨fun z => hu (Or.inl z), (Option.some.inj ha).symm⟩
    obtain ⟨hun, rfl⟩ := hun
    have A : Arr s s.heap a c .byte := ⟨h1, ⟨fun q z => (by rw [z] at h4; cases h4), k, h3, comp, g3⟩, hun⟩
    have hsz : c.slots.size = 100 := own_len A ev hl
    refine ⟨c.cls, c, A, rfl, by rw [hsz]; rfl, by decide, fun i hi => ?_, fun i hi => hfits i (by omega)⟩
    have hi' : i < 100 := by omega
    have q := Cond.all_elim ev ha hall i hi
    have e2 := own_eqv (hF i hi') q
    have hj : i.toInt32.toNatClampNeg = i := own_nat32 (by omega)
    have hi0 : (Term.index 0).eval args s none [i] s = some (.int i.toInt32) := by simp [Term.eval]
    have hn : ¬ i.toInt32 < 0 := by
      have e5 : i.toInt32.toInt = i := Int32.toInt_ofNat_of_lt (by omega)
      rw [Int32.lt_iff_toInt_lt, e5]
      have z : (0 : Int32).toInt = 0 := rfl
      omega
    rw [elem_f (t := .static C n d) (x := a) (show (Term.static C n d).eval args s none [i] s = _ from ev) hi0 ha hn, hj] at e2
    rw [e2, hvs i hi']
end OwnDigits
theorem own_F1 {s : State} {args : Array Value} : ∀ i, i < 100 → (Term.add (.int (48 : Int32)) (.rem (.index 0) (.int (10 : Int32)))).eval args s none [i] s = some (.int (Int32.ofNat (48 + i % 10))) := fun i hi => by
  have h : ∀ i, i < 100 → (48 : Int32) + i.toInt32 % 10 = Int32.ofNat (48 + i % 10) := by decide +kernel
  simp [Term.eval, ← h i hi]
theorem own_F2 {s : State} {args : Array Value} : ∀ i, i < 100 → (Term.add (.int (48 : Int32)) (.div (.index 0) (.int (10 : Int32)))).eval args s none [i] s = some (.int (Int32.ofNat (48 + i / 10))) := fun i hi => by
  have h : ∀ i, i < 100 → (48 : Int32) + i.toInt32 / 10 = Int32.ofNat (48 + i / 10) := by decide +kernel
  simp [Term.eval, ← h i hi]
theorem own_V1 : (∀ i, i < 100 → own_ones.getD i (.int 0) = .int (Int32.ofNat (48 + i % 10))) ∧ ∀ i, i < 100 → fits .byte (own_ones.getD i (.int 0)) = true := by decide +kernel
theorem own_V2 : (∀ i, i < 100 → own_tens.getD i (.int 0) = .int (Int32.ofNat (48 + i / 10))) ∧ ∀ i, i < 100 → fits .byte (own_tens.getD i (.int 0)) = true := by decide +kernel
theorem abs_d0 : decode jdk_29_method_59_code 0 = .ok (.iload_n 0, 1) := by decide +kernel
theorem abs_d1 : decode jdk_29_method_59_code 1 = .ok (.ifCond .ge 8, 3) := by decide +kernel
theorem abs_d9 : decode jdk_29_method_59_code 9 = .ok (.iload_n 0, 1) := by decide +kernel
theorem abs_d10 : decode jdk_29_method_59_code 10 = .ok (.ireturn, 1) := by decide +kernel
theorem abs_ef (m : MethodId) (x0 : Int32) : entryFrame m #[(.int x0)] 1 = mkF m 0 #[.val (.int x0)] [] := by first | (simp [entryFrame, mkF, argsToLocals, Value.category]; done) | rfl
set_option maxRecDepth 65536 in
set_option maxHeartbeats 40000000 in
theorem rm_abs (l : Launch) (Z : State) (a0 : Array Value) (hw : ∀ d ∈ tables_1, d.before a0 Z = true) (ws : List Jvm.Cond)  (h0 : Heap) (n0 : Nat) (Z0 : n0 ≤ h0.size)  :
    MetFree l (⟨"java/lang/Math", "abs", "(I)I"⟩ : MethodName) (head1 (Jvm.Cond.code (⟨"java/lang/Math", "abs", "(I)I"⟩ : MethodName) jdk_29_method_59_code 1 (some .int) :: ws) ({ frames := 0, cells := 0, slots := 0, locals := 0 } : Room)) (fun a U => a = #[(.int (1970 : Int32))] ∧ Z.Warmed39 U.vm ∧ U.heap = h0) (fun _ _ _ _ _ => True) (fun _ U o U' => OwnEnd U (fun v h L => v = some (.int (1970 : Int32)) ∧ Fr n0 L ∧ h = h0) ({ frames := 0, cells := 0, slots := 0, locals := 0 } : Room).cells ({ frames := 0, cells := 0, slots := 0, locals := 0 } : Room).slots o U') := by
  refine MetFree.of_bodySF (Jvm.Free.JP.mathPlain rfl (by decide +kernel)) hisR ?_
  intro p e s m args below meth c s₁ Bd hml0 hP hK
  obtain ⟨rfl, hZ, hh⟩ := hP
  have hx := Bd.exec
  have hby := Bd.bytes
  have hml : c.maxLocals = 1 := hml0
  have hown : s.vm.findClass "java/lang/Math" = some m.cls := findClass_of_methodNamed Bd.named
  have hnm := (name_of_methodNamed Bd.named Bd.method).1
  have X0 : Stand p l e ({ frames := 0, cells := 0, slots := 0, locals := 0 } : Room) s m #[(.int (1970 : Int32))] below meth c s₁ [] 0 0 := Stand.of_body Bd
  have e0 : s₁.heap = h0 := by rw [← hh, Bd.state]; rfl
  have N0 := Fr.nil n0
  have KP0 := Keep.refl h0 []
  refine own_go (Q := (OwnEnd s (fun v h L => v = some (.int (1970 : Int32)) ∧ Fr n0 L ∧ h = h0) ({ frames := 0, cells := 0, slots := 0, locals := 0 } : Room).cells ({ frames := 0, cells := 0, slots := 0, locals := 0 } : Room).slots)) ?_
  refine own_back (fun t k => castTop (abs_ef m (1970 : Int32)) k) ?_
  show OwnGo p e below (s₁.setTop (mkF m 0 #[.val (.int (1970 : Int32))] [])) _
  refine own_back (fun t k => XS.iloadN X0.here hx rfl (hb hby abs_d0) rfl k) ?_
  show OwnGo p e below (s₁.setTop (mkF m 1 #[.val (.int (1970 : Int32))] [(.int (1970 : Int32))])) _
  refine own_back (fun t k => XS.ifYes X0.here hx rfl (pc0 := 1) (pc' := 9) rfl (hb hby abs_d1) rfl (Jvm.Free.XT.i0_ge_t (by decide)) (by decide) (by decide) k) ?_
  show OwnGo p e below (s₁.setTop (mkF m 9 #[.val (.int (1970 : Int32))] [])) _
  refine own_back (fun t k => XS.iloadN X0.here hx rfl (hb hby abs_d9) rfl k) ?_
  show OwnGo p e below (s₁.setTop (mkF m 10 #[.val (.int (1970 : Int32))] [(.int (1970 : Int32))])) _
  refine own_retI X0 hx Bd.notSynchronized Bd.returns (hb hby abs_d10) e0 (Nat.le_of_ble_eq_true rfl) (Nat.le_of_ble_eq_true rfl) ?_
  exact ⟨rfl, N0, rfl⟩
theorem ldts_d0 : decode jdk_2323_method_76_code 0 = .ok (.aload_n 0, 1) := by decide +kernel
theorem ldts_d1 : decode jdk_2323_method_76_code 1 = .ok (.getfield 246, 3) := by decide +kernel
theorem ldts_d4 : decode jdk_2323_method_76_code 4 = .ok (.istore_n 1, 1) := by decide +kernel
theorem ldts_d5 : decode jdk_2323_method_76_code 5 = .ok (.aload_n 0, 1) := by decide +kernel
theorem ldts_d6 : decode jdk_2323_method_76_code 6 = .ok (.getfield 250, 3) := by decide +kernel
theorem ldts_d9 : decode jdk_2323_method_76_code 9 = .ok (.istore_n 2, 1) := by decide +kernel
theorem ldts_d10 : decode jdk_2323_method_76_code 10 = .ok (.aload_n 0, 1) := by decide +kernel
theorem ldts_d11 : decode jdk_2323_method_76_code 11 = .ok (.getfield 253, 3) := by decide +kernel
theorem ldts_d14 : decode jdk_2323_method_76_code 14 = .ok (.istore_n 3, 1) := by decide +kernel
theorem ldts_d15 : decode jdk_2323_method_76_code 15 = .ok (.iload_n 1, 1) := by decide +kernel
theorem ldts_d16 : decode jdk_2323_method_76_code 16 = .ok (.invokestatic 697, 3) := by decide +kernel
theorem ldts_d19 : decode jdk_2323_method_76_code 19 = .ok (.istore 4, 2) := by decide +kernel
theorem ldts_d21 : decode jdk_2323_method_76_code 21 = .ok (.new 82, 3) := by decide +kernel
theorem ldts_d24 : decode jdk_2323_method_76_code 24 = .ok (.dup, 1) := by decide +kernel
theorem ldts_d25 : decode jdk_2323_method_76_code 25 = .ok (.bipush 10, 2) := by decide +kernel
theorem ldts_d27 : decode jdk_2323_method_76_code 27 = .ok (.invokespecial 701, 3) := by decide +kernel
theorem ldts_d30 : decode jdk_2323_method_76_code 30 = .ok (.astore 5, 2) := by decide +kernel
theorem ldts_d32 : decode jdk_2323_method_76_code 32 = .ok (.iload 4, 2) := by decide +kernel
theorem ldts_d34 : decode jdk_2323_method_76_code 34 = .ok (.sipush 1000, 3) := by decide +kernel
theorem ldts_d37 : decode jdk_2323_method_76_code 37 = .ok (.if_icmp .ge 43, 3) := by decide +kernel
theorem ldts_d80 : decode jdk_2323_method_76_code 80 = .ok (.iload_n 1, 1) := by decide +kernel
theorem ldts_d81 : decode jdk_2323_method_76_code 81 = .ok (.sipush 9999, 3) := by decide +kernel
theorem ldts_d84 : decode jdk_2323_method_76_code 84 = .ok (.if_icmp .le 11, 3) := by decide +kernel
theorem ldts_d95 : decode jdk_2323_method_76_code 95 = .ok (.aload 5, 2) := by decide +kernel
theorem ldts_d97 : decode jdk_2323_method_76_code 97 = .ok (.iload_n 1, 1) := by decide +kernel
theorem ldts_d98 : decode jdk_2323_method_76_code 98 = .ok (.invokevirtual 94, 3) := by decide +kernel
theorem ldts_d101 : decode jdk_2323_method_76_code 101 = .ok (.pop, 1) := by decide +kernel
theorem ldts_d102 : decode jdk_2323_method_76_code 102 = .ok (.aload 5, 2) := by decide +kernel
theorem ldts_d104 : decode jdk_2323_method_76_code 104 = .ok (.iload_n 2, 1) := by decide +kernel
theorem ldts_d105 : decode jdk_2323_method_76_code 105 = .ok (.bipush 10, 2) := by decide +kernel
theorem ldts_d107 : decode jdk_2323_method_76_code 107 = .ok (.if_icmp .ge 9, 3) := by decide +kernel
theorem ldts_d110 : decode jdk_2323_method_76_code 110 = .ok (.ldc_w 710, 3) := by decide +kernel
theorem ldts_d113 : decode jdk_2323_method_76_code 113 = .ok (.goto 6, 3) := by decide +kernel
theorem ldts_d119 : decode jdk_2323_method_76_code 119 = .ok (.invokevirtual 90, 3) := by decide +kernel
theorem ldts_d122 : decode jdk_2323_method_76_code 122 = .ok (.iload_n 2, 1) := by decide +kernel
theorem ldts_d123 : decode jdk_2323_method_76_code 123 = .ok (.invokevirtual 94, 3) := by decide +kernel
theorem ldts_d126 : decode jdk_2323_method_76_code 126 = .ok (.iload_n 3, 1) := by decide +kernel
theorem ldts_d127 : decode jdk_2323_method_76_code 127 = .ok (.bipush 10, 2) := by decide +kernel
theorem ldts_d129 : decode jdk_2323_method_76_code 129 = .ok (.if_icmp .ge 9, 3) := by decide +kernel
theorem ldts_d132 : decode jdk_2323_method_76_code 132 = .ok (.ldc_w 710, 3) := by decide +kernel
theorem ldts_d135 : decode jdk_2323_method_76_code 135 = .ok (.goto 6, 3) := by decide +kernel
theorem ldts_d141 : decode jdk_2323_method_76_code 141 = .ok (.invokevirtual 90, 3) := by decide +kernel
theorem ldts_d144 : decode jdk_2323_method_76_code 144 = .ok (.iload_n 3, 1) := by decide +kernel
theorem ldts_d145 : decode jdk_2323_method_76_code 145 = .ok (.invokevirtual 94, 3) := by decide +kernel
theorem ldts_d148 : decode jdk_2323_method_76_code 148 = .ok (.invokevirtual 99, 3) := by decide +kernel
theorem ldts_d151 : decode jdk_2323_method_76_code 151 = .ok (.areturn, 1) := by decide +kernel
theorem ldts_pn : plainName "java/time/LocalDate" = true := by first | (simp [plainName, overriddenIn]; done) | decide +kernel
theorem ldts_pd0 : parseMethodDescriptor "(I)I" = some ⟨[.int], some .int⟩ := by decide +kernel
theorem ldts_pd1 : parseMethodDescriptor "(I)V" = some ⟨[.int], none⟩ := by decide +kernel
theorem ldts_pd2 : parseMethodDescriptor "(I)Ljava/lang/StringBuilder;" = some ⟨[.int], some (.object "java/lang/StringBuilder")⟩ := by decide +kernel
theorem ldts_pd3 : parseMethodDescriptor "(Ljava/lang/String;)Ljava/lang/StringBuilder;" = some ⟨[(.object "java/lang/String")], some (.object "java/lang/StringBuilder")⟩ := by decide +kernel
theorem ldts_pd4 : parseMethodDescriptor "()Ljava/lang/String;" = some ⟨[], some (.object "java/lang/String")⟩ := by decide +kernel
theorem ldts_ef (m : MethodId) (x0 : Addr) : entryFrame m #[(.ref x0)] 6 = mkF m 0 #[.val (.ref x0), .unset, .unset, .unset, .unset, .unset] [] := by first | (simp [entryFrame, mkF, argsToLocals, Value.category]; done) | rfl
set_option maxRecDepth 65536 in
set_option maxHeartbeats 40000000 in
theorem rm_ldts (l : Launch) (Z : State) (a0 : Array Value) (hw : ∀ d ∈ tables_1, d.before a0 Z = true) (ws : List Jvm.Cond) (a1 : Addr) (wO : Addr) (wT : Addr) (kO : ClassId) (kT : ClassId) (cz : Int32) (h0 : Heap) (n0 : Nat) (Z0 : n0 ≤ h0.size) (OL : Old Z n0 h0) (E1 : Exa Z h0 a1 "java/time/LocalDate") (G0 : Fld Z h0 a1 "java/time/LocalDate" "year" "I" (.int 1970)) (G1 : Fld Z h0 a1 "java/time/LocalDate" "month" "S" (.int 1)) (G2 : Fld Z h0 a1 "java/time/LocalDate" "day" "S" (.int 1)) (SO1 : Sta Z Z.heap "java/lang/Integer" "DigitOnes" "[B" (.ref wO)) (SO2 : Sta Z Z.heap "java/lang/Integer" "DigitTens" "[B" (.ref wT)) (AO1 : Arv Z Z.heap wO kO .byte (100 : Int32) own_ones (.int 0)) (AO2 : Arv Z Z.heap wT kT .byte (100 : Int32) own_tens (.int 0)) (SC : Sta Z Z.heap "java/lang/String" "COMPACT_STRINGS" "Z" (.int cz)) (hcz : ¬ cz = 0) :
    MetFree l (⟨"java/time/LocalDate", "toString", "()Ljava/lang/String;"⟩ : MethodName) (head1 (Jvm.Cond.code (⟨"java/time/LocalDate", "toString", "()Ljava/lang/String;"⟩ : MethodName) jdk_2323_method_76_code 6 (some (.object "java/lang/String")) :: ws) ({ frames := 6, cells := 10, slots := 120, locals := 170 } : Room)) (fun a U => a = #[(.ref a1)] ∧ Z.Warmed39 U.vm ∧ U.heap = h0 ∧ CHv Z own_EL U.vm h0 ∧ ∀ x ∈ ([] : List Addr), Safe Z own_EL U.vm h0 x) (fun _ _ _ _ _ => True) (fun _ U o U' => OwnEndW Z own_EL U (fun v h L => ∃ a, v = some (.ref a) ∧ Fr n0 L ∧ Ext h0 h ∧ OwnStr Z h a [49, 57, 55, 48, 45, 48, 49, 45, 48, 49]) ({ frames := 6, cells := 10, slots := 120, locals := 170 } : Room).cells ({ frames := 6, cells := 10, slots := 120, locals := 170 } : Room).slots o U') := by
  refine MetFree.of_bodySF (plainFor_of_name ldts_pn) hisR ?_
  intro p e s m args below meth c s₁ Bd hml0 hP hK
  obtain ⟨rfl, hZ, hh, hCH, hSL⟩ := hP
  have hx := Bd.exec
  have hby := Bd.bytes
  have hml : c.maxLocals = 6 := hml0
  have hown : s.vm.findClass "java/time/LocalDate" = some m.cls := findClass_of_methodNamed Bd.named
  have hnm := (name_of_methodNamed Bd.named Bd.method).1
  have X0 : Stand p l e ({ frames := 6, cells := 10, slots := 120, locals := 170 } : Room) (s.setVm s.vm) m #[(.ref a1)] below meth c s₁ [] 0 0 := Stand.of_body Bd
  have e0 : s₁.heap = h0 := by rw [← hh, Bd.state]; rfl
  have N0 := Fr.nil n0
  have KP0 := Keep.refl h0 []
  have hown : (s.setVm s.vm).vm.findClass "java/time/LocalDate" = some m.cls := hown
  have hZ : Z.Warmed39 (s.setVm s.vm).vm := hZ
  have hS0 : s.Since s.vm 0 := (State.WarmedH.refl s).since 0
  have hk0 : 0 ≤ h0.size := Nat.zero_le _
  have CR0 : CHr Z own_EL s.vm h0 s.vm h0 := CHr.refl hCH
  have hEL := own_EW hw
  refine own_go (Q := (OwnEndW Z own_EL s (fun v h L => ∃ a, v = some (.ref a) ∧ Fr n0 L ∧ Ext h0 h ∧ OwnStr Z h a [49, 57, 55, 48, 45, 48, 49, 45, 48, 49]) ({ frames := 6, cells := 10, slots := 120, locals := 170 } : Room).cells ({ frames := 6, cells := 10, slots := 120, locals := 170 } : Room).slots)) ?_
  refine own_back (fun t k => castTop (ldts_ef m a1) k) ?_
  show OwnGo p e below (s₁.setTop (mkF m 0 #[.val (.ref a1), .unset, .unset, .unset, .unset, .unset] [])) _
  refine own_back (fun t k => XS.aloadN X0.here hx rfl (hb hby ldts_d0) rfl rfl k) ?_
  show OwnGo p e below (s₁.setTop (mkF m 1 #[.val (.ref a1), .unset, .unset, .unset, .unset, .unset] [(.ref a1)])) _
  obtain ⟨T617, X617, e617, st617⟩ := getF X0 hx hZ hown (host := "") (Or.inl (hw _ (List.mem_of_getElem? (i := 192) rfl))) Via.refl e0 G0 (g := (mkF m 1 #[.val (.ref a1), .unset, .unset, .unset, .unset, .unset] [(.ref a1)])) rfl rfl (hb hby ldts_d1)
  refine own_back st617 ?_
  show OwnGo p e below (T617.setTop (mkF m 4 #[.val (.ref a1), .unset, .unset, .unset, .unset, .unset] [(.int (1970 : Int32))])) _
  refine own_back (fun t k => XS.istoreN X617.here hx rfl (hb hby ldts_d4) rfl (l' := #[.val (.ref a1), .val (.int (1970 : Int32)), .unset, .unset, .unset, .unset]) rfl k) ?_
  show OwnGo p e below (T617.setTop (mkF m 5 #[.val (.ref a1), .val (.int (1970 : Int32)), .unset, .unset, .unset, .unset] [])) _
  refine own_back (fun t k => XS.aloadN X617.here hx rfl (hb hby ldts_d5) rfl rfl k) ?_
  show OwnGo p e below (T617.setTop (mkF m 6 #[.val (.ref a1), .val (.int (1970 : Int32)), .unset, .unset, .unset, .unset] [(.ref a1)])) _
  obtain ⟨T618, X618, e618, st618⟩ := getF X617 hx hZ hown (host := "") (Or.inl (hw _ (List.mem_of_getElem? (i := 194) rfl))) Via.refl e617 G1 (g := (mkF m 6 #[.val (.ref a1), .val (.int (1970 : Int32)), .unset, .unset, .unset, .unset] [(.ref a1)])) rfl rfl (hb hby ldts_d6)
  refine own_back st618 ?_
  show OwnGo p e below (T618.setTop (mkF m 9 #[.val (.ref a1), .val (.int (1970 : Int32)), .unset, .unset, .unset, .unset] [(.int (1 : Int32))])) _
  refine own_back (fun t k => XS.istoreN X618.here hx rfl (hb hby ldts_d9) rfl (l' := #[.val (.ref a1), .val (.int (1970 : Int32)), .val (.int (1 : Int32)), .unset, .unset, .unset]) rfl k) ?_
  show OwnGo p e below (T618.setTop (mkF m 10 #[.val (.ref a1), .val (.int (1970 : Int32)), .val (.int (1 : Int32)), .unset, .unset, .unset] [])) _
  refine own_back (fun t k => XS.aloadN X618.here hx rfl (hb hby ldts_d10) rfl rfl k) ?_
  show OwnGo p e below (T618.setTop (mkF m 11 #[.val (.ref a1), .val (.int (1970 : Int32)), .val (.int (1 : Int32)), .unset, .unset, .unset] [(.ref a1)])) _
  obtain ⟨T619, X619, e619, st619⟩ := getF X618 hx hZ hown (host := "") (Or.inl (hw _ (List.mem_of_getElem? (i := 196) rfl))) Via.refl e618 G2 (g := (mkF m 11 #[.val (.ref a1), .val (.int (1970 : Int32)), .val (.int (1 : Int32)), .unset, .unset, .unset] [(.ref a1)])) rfl rfl (hb hby ldts_d11)
  refine own_back st619 ?_
  show OwnGo p e below (T619.setTop (mkF m 14 #[.val (.ref a1), .val (.int (1970 : Int32)), .val (.int (1 : Int32)), .unset, .unset, .unset] [(.int (1 : Int32))])) _
  refine own_back (fun t k => XS.istoreN X619.here hx rfl (hb hby ldts_d14) rfl (l' := #[.val (.ref a1), .val (.int (1970 : Int32)), .val (.int (1 : Int32)), .val (.int (1 : Int32)), .unset, .unset]) rfl k) ?_
  show OwnGo p e below (T619.setTop (mkF m 15 #[.val (.ref a1), .val (.int (1970 : Int32)), .val (.int (1 : Int32)), .val (.int (1 : Int32)), .unset, .unset] [])) _
  refine own_back (fun t k => XS.iloadN X619.here hx rfl (hb hby ldts_d15) rfl k) ?_
  show OwnGo p e below (T619.setTop (mkF m 16 #[.val (.ref a1), .val (.int (1970 : Int32)), .val (.int (1 : Int32)), .val (.int (1 : Int32)), .unset, .unset] [(.int (1970 : Int32))])) _
  obtain ⟨_, _, ⟨T620, L620, k620, n620⟩, -, X620, ⟨Lc620, hQ620, l620, y620, z620⟩, st620⟩ := Jvm.LawKit.callS X619 hx (y := (⟨"java/lang/Math", "abs", "(I)I"⟩ : MethodName)) hown (mvT hZ (hw _ (List.mem_of_getElem? (i := 203) rfl))) (mvT hZ (hw _ (List.mem_of_getElem? (i := 204) rfl))) (mvT hZ (hw _ (List.mem_of_getElem? (i := 205) rfl))) (mvT hZ (hw _ (List.mem_of_getElem? (i := 206) rfl))) (by decide) (own_backN (W := 0) (rm_abs l Z a0 hw [] h0 n0 Z0) hZ (hw _ (List.mem_of_getElem? (i := 206) rfl)) (hw _ (List.mem_of_getElem? (i := 205) rfl)) (by decide) (by decide)) (g := (mkF m 16 #[.val (.ref a1), .val (.int (1970 : Int32)), .val (.int (1 : Int32)), .val (.int (1 : Int32)), .unset, .unset] [(.int (1970 : Int32))])) rfl (by rw [hml]; rfl) (argsL := [(.int (1970 : Int32))]) (rest := []) (lenOf ldts_pd0 rfl) rfl (by show 2 * 0 + _ ≤ _; exact Nat.le_of_eq rfl) (hb hby ldts_d16) (fun _ _ => ⟨rfl, e619, Nat.le_of_ble_eq_true rfl, Nat.le_of_ble_eq_true rfl⟩)
  dsimp only [Pt.U, Pt.locs, Pt.cells, Pt.slots] at X620 l620 y620 z620 st620 hQ620
  subst l620 y620 z620
  obtain ⟨rfl, N620q, hh620⟩ := hQ620
  refine own_back st620 ?_
  have N620 := Fr.app N0 N620q
  show OwnGo p e below (T620.setTop (mkF m 19 #[.val (.ref a1), .val (.int (1970 : Int32)), .val (.int (1 : Int32)), .val (.int (1 : Int32)), .unset, .unset] [(.int (1970 : Int32))])) _
  refine own_back (fun t k => XS.istore X620.here hx rfl (hb hby ldts_d19) rfl (l' := #[.val (.ref a1), .val (.int (1970 : Int32)), .val (.int (1 : Int32)), .val (.int (1 : Int32)), .val (.int (1970 : Int32)), .unset]) rfl k) ?_
  show OwnGo p e below (T620.setTop (mkF m 21 #[.val (.ref a1), .val (.int (1970 : Int32)), .val (.int (1 : Int32)), .val (.int (1 : Int32)), .val (.int (1970 : Int32)), .unset] [])) _
  obtain ⟨T621, h621, X621, e621, E621, A621, D621, -, st621⟩ := newO X620 hx hZ hown (hw _ (List.mem_of_getElem? (i := 207) rfl)) (hw _ (List.mem_of_getElem? (i := 62) rfl)) (hw _ (List.mem_of_getElem? (i := 63) rfl)) hh620 (g := (mkF m 21 #[.val (.ref a1), .val (.int (1970 : Int32)), .val (.int (1 : Int32)), .val (.int (1 : Int32)), .val (.int (1970 : Int32)), .unset] [])) rfl (hb hby ldts_d21) (Nat.le_of_ble_eq_true rfl) (Nat.le_of_ble_eq_true rfl)
  obtain ⟨b621, g621⟩ : ∃ z, z = h0.size := ⟨_, rfl⟩
  have ge622 : n0 ≤ b621 := Nat.le_trans Z0 (Nat.le_of_eq g621.symm)
  have sz623 : h0.size ≤ b621 := Nat.le_trans KP0.1 (Nat.le_of_eq g621.symm)
  rw [← g621] at A621 D621 st621
  have O624 := OL.ext E621
  have KP625 := KP0.ext E621
  have Zs626 := Nat.le_trans Z0 E621.1
  have CR627 := CR0.trans (CHr.ext E621 CR0.1)
  have hk628 := Nat.le_trans hk0 E621.1
  have F629 : Fld Z h621 b621 "java/lang/AbstractStringBuilder" "value" "[B" .null := D621 (Or.inl (hw _ (List.mem_of_getElem? (i := 76) rfl))) (ty := (.array .byte)) (by decide)
  have F630 : Fld Z h621 b621 "java/lang/AbstractStringBuilder" "coder" "B" (.int (0 : Int32)) := D621 (Or.inl (hw _ (List.mem_of_getElem? (i := 78) rfl))) (ty := .byte) (by decide)
  have F631 : Fld Z h621 b621 "java/lang/AbstractStringBuilder" "count" "I" (.int (0 : Int32)) := D621 (Or.inl (hw _ (List.mem_of_getElem? (i := 103) rfl))) (ty := .int) (by decide)
  have sf632 := Safe.ext E621 CR0.1 (Safe.new (Nat.le_of_eq g621.symm))
  refine own_back st621 ?_
  show OwnGo p e below (T621.setTop (mkF m 24 #[.val (.ref a1), .val (.int (1970 : Int32)), .val (.int (1 : Int32)), .val (.int (1 : Int32)), .val (.int (1970 : Int32)), .unset] [(.ref b621)])) _
  refine own_back (fun t k => XS.dup X621.here hx rfl (hb hby ldts_d24) rfl rfl k) ?_
  show OwnGo p e below (T621.setTop (mkF m 25 #[.val (.ref a1), .val (.int (1970 : Int32)), .val (.int (1 : Int32)), .val (.int (1 : Int32)), .val (.int (1970 : Int32)), .unset] [(.ref b621), (.ref b621)])) _
  refine own_back (fun t k => XS.bipush X621.here hx rfl (hb hby ldts_d25) k) ?_
  show OwnGo p e below (T621.setTop (mkF m 27 #[.val (.ref a1), .val (.int (1970 : Int32)), .val (.int (1 : Int32)), .val (.int (1 : Int32)), .val (.int (1970 : Int32)), .unset] [(.int (10 : Int32)), (.ref b621), (.ref b621)])) _
  obtain ⟨_, _, ⟨T633, L633, k633, n633⟩, -, X633, ⟨Lc633, hQ633, l633, y633, z633⟩, st633⟩ := X621.specialBack hx (y := (⟨"java/lang/StringBuilder", "<init>", "(I)V"⟩ : MethodName)) rfl hown (mvT hZ (hw _ (List.mem_of_getElem? (i := 208) rfl))) (mvT hZ (hw _ (List.mem_of_getElem? (i := 209) rfl))) (mvT hZ (hw _ (List.mem_of_getElem? (i := 211) rfl))) (by decide) (own_backN (W := 1) (rm_sbi10 l Z a0 hw [] b621 cz h621 n0 Zs626 O624 A621 F630 F629 F631 ge622 SC hcz) hZ (hw _ (List.mem_of_getElem? (i := 211) rfl)) (hw _ (List.mem_of_getElem? (i := 63) rfl)) (by decide) (by decide)) (g := (mkF m 27 #[.val (.ref a1), .val (.int (1970 : Int32)), .val (.int (1 : Int32)), .val (.int (1 : Int32)), .val (.int (1970 : Int32)), .unset] [(.int (10 : Int32)), (.ref b621), (.ref b621)])) rfl (by rw [hml]; rfl) (Steps.refl _) (a := b621) (argsL := [(.int (10 : Int32))]) (rest := [(.ref b621)]) (lenOf ldts_pd1 rfl) rfl (by show 2 * 0 + _ ≤ _; exact Nat.le_of_eq rfl) (hb hby ldts_d27) (fun _ _ => ⟨rfl, e621, Nat.le_of_ble_eq_true rfl, Nat.le_of_ble_eq_true rfl⟩)
  dsimp only [Pt.U, Pt.locs, Pt.cells, Pt.slots] at X633 l633 y633 z633 st633 hQ633
  subst l633 y633 z633
  obtain ⟨rfl, N633q, K633, tb633, z633, B633⟩ := hQ633
  refine own_seq st633 ?_
  have N633 := Fr.app N620 N633q
  have ge634 : n0 ≤ tb633 := Nat.le_trans Zs626 z633
  have sz635 : h0.size ≤ tb633 := Nat.le_trans KP625.1 z633
  have O636 := O624.keep K633 (allS ge622 all0)
  have KP637 := KP625.trans K633 (allS (Or.inr sz623) all0)
  have Zs638 := Nat.le_trans Zs626 K633.1
  have CR639 := CR627.trans (CHr.keep K633 (sfS sf632 sf0) CR627.1)
  have hk640 := Nat.le_trans hk628 K633.1
  have f641 := A621.keep K633
  have f642 := (Safe.keep K633 (sfS sf632 sf0) CR627.1 sf632)
  have sf643 := Safe.keep K633 (sfS sf632 sf0) CR627.1 (Safe.new z633)
  show OwnGo p e below (T633.setTop (mkF m 30 #[.val (.ref a1), .val (.int (1970 : Int32)), .val (.int (1 : Int32)), .val (.int (1 : Int32)), .val (.int (1970 : Int32)), .unset] [(.ref b621)])) _
  refine own_back (fun t k => XS.astore X633.here hx rfl (hb hby ldts_d30) rfl rfl (l' := #[.val (.ref a1), .val (.int (1970 : Int32)), .val (.int (1 : Int32)), .val (.int (1 : Int32)), .val (.int (1970 : Int32)), .val (.ref b621)]) rfl k) ?_
  show OwnGo p e below (T633.setTop (mkF m 32 #[.val (.ref a1), .val (.int (1970 : Int32)), .val (.int (1 : Int32)), .val (.int (1 : Int32)), .val (.int (1970 : Int32)), .val (.ref b621)] [])) _
  refine own_back (fun t k => XS.iload X633.here hx rfl (hb hby ldts_d32) rfl k) ?_
  show OwnGo p e below (T633.setTop (mkF m 34 #[.val (.ref a1), .val (.int (1970 : Int32)), .val (.int (1 : Int32)), .val (.int (1 : Int32)), .val (.int (1970 : Int32)), .val (.ref b621)] [(.int (1970 : Int32))])) _
  refine own_back (fun t k => XS.sipush X633.here hx rfl (hb hby ldts_d34) k) ?_
  show OwnGo p e below (T633.setTop (mkF m 37 #[.val (.ref a1), .val (.int (1970 : Int32)), .val (.int (1 : Int32)), .val (.int (1 : Int32)), .val (.int (1970 : Int32)), .val (.ref b621)] [(.int (1000 : Int32)), (.int (1970 : Int32))])) _
  refine own_back (fun t k => XS.icmpYes X633.here hx rfl (pc0 := 37) (pc' := 80) rfl (hb hby ldts_d37) rfl (Jvm.Free.XT.ii_ge_t (by decide)) (by decide) (by decide) k) ?_
  show OwnGo p e below (T633.setTop (mkF m 80 #[.val (.ref a1), .val (.int (1970 : Int32)), .val (.int (1 : Int32)), .val (.int (1 : Int32)), .val (.int (1970 : Int32)), .val (.ref b621)] [])) _
  refine own_back (fun t k => XS.iloadN X633.here hx rfl (hb hby ldts_d80) rfl k) ?_
  show OwnGo p e below (T633.setTop (mkF m 81 #[.val (.ref a1), .val (.int (1970 : Int32)), .val (.int (1 : Int32)), .val (.int (1 : Int32)), .val (.int (1970 : Int32)), .val (.ref b621)] [(.int (1970 : Int32))])) _
  refine own_back (fun t k => XS.sipush X633.here hx rfl (hb hby ldts_d81) k) ?_
  show OwnGo p e below (T633.setTop (mkF m 84 #[.val (.ref a1), .val (.int (1970 : Int32)), .val (.int (1 : Int32)), .val (.int (1 : Int32)), .val (.int (1970 : Int32)), .val (.ref b621)] [(.int (9999 : Int32)), (.int (1970 : Int32))])) _
  refine own_back (fun t k => XS.icmpYes X633.here hx rfl (pc0 := 84) (pc' := 95) rfl (hb hby ldts_d84) rfl (Jvm.Free.XT.ii_le_t (by decide)) (by decide) (by decide) k) ?_
  show OwnGo p e below (T633.setTop (mkF m 95 #[.val (.ref a1), .val (.int (1970 : Int32)), .val (.int (1 : Int32)), .val (.int (1 : Int32)), .val (.int (1970 : Int32)), .val (.ref b621)] [])) _
  refine own_back (fun t k => XS.aload X633.here hx rfl (hb hby ldts_d95) rfl rfl k) ?_
  show OwnGo p e below (T633.setTop (mkF m 97 #[.val (.ref a1), .val (.int (1970 : Int32)), .val (.int (1 : Int32)), .val (.int (1 : Int32)), .val (.int (1970 : Int32)), .val (.ref b621)] [(.ref b621)])) _
  refine own_back (fun t k => XS.iloadN X633.here hx rfl (hb hby ldts_d97) rfl k) ?_
  show OwnGo p e below (T633.setTop (mkF m 98 #[.val (.ref a1), .val (.int (1970 : Int32)), .val (.int (1 : Int32)), .val (.int (1 : Int32)), .val (.int (1970 : Int32)), .val (.ref b621)] [(.int (1970 : Int32)), (.ref b621)])) _
  obtain ⟨cq644, kq644, q644a, q644b, q644c⟩ := isOf hZ rfl f641
  obtain ⟨_, _, ⟨T644, L644, k644, n644⟩, -, X644, ⟨Lc644, hQ644, l644, y644, z644⟩, st644⟩ := X633.virtualBack hx (y := (⟨"java/lang/StringBuilder", "append", "(I)Ljava/lang/StringBuilder;"⟩ : MethodName)) (z := (⟨"java/lang/StringBuilder", "append", "(I)Ljava/lang/StringBuilder;"⟩ : MethodName)) hown (mvT hZ (hw _ (List.mem_of_getElem? (i := 212) rfl))) (mvT hZ (hw _ (List.mem_of_getElem? (i := 213) rfl))) (notFace_of_selects (args := #[]) (mvT hZ (hw _ (List.mem_of_getElem? (i := 215) rfl)))) (mvT hZ (hw _ (List.mem_of_getElem? (i := 215) rfl))) (mvT hZ (hw _ (List.mem_of_getElem? (i := 214) rfl))) (by decide) (own_backN (W := 0) (rm_sai1970_0 l Z a0 hw [] b621 tb633 0 0 0 0 0 0 0 0 0 0 wO wT kO kT cz T633.heap n0 Zs638 O636 B633 ge622 ge634 SO1 SO2 AO1 AO2 SC hcz) hZ (hw _ (List.mem_of_getElem? (i := 216) rfl)) (hw _ (List.mem_of_getElem? (i := 63) rfl)) (by decide) (by decide)) q644a q644c (g := (mkF m 98 #[.val (.ref a1), .val (.int (1970 : Int32)), .val (.int (1 : Int32)), .val (.int (1 : Int32)), .val (.int (1970 : Int32)), .val (.ref b621)] [(.int (1970 : Int32)), (.ref b621)])) rfl (by rw [hml]; rfl) (Steps.refl _) (argsL := [(.int (1970 : Int32))]) (rest := []) (lenOf ldts_pd2 rfl) rfl (by show 2 * 0 + _ ≤ _; exact Nat.le_of_eq rfl) (hb hby ldts_d98) (fun _ _ => ⟨rfl, rfl, Nat.le_of_ble_eq_true rfl, Nat.le_of_ble_eq_true rfl⟩)
  dsimp only [Pt.U, Pt.locs, Pt.cells, Pt.slots] at X644 l644 y644 z644 st644 hQ644
  subst l644 y644 z644
  obtain ⟨rfl, N644q, K644, B644⟩ := hQ644
  refine own_seq st644 ?_
  have N644 := Fr.app N633 N644q
  have O645 := O636.keep K644 (allS ge622 (allS ge634 all0))
  have KP646 := KP637.trans K644 (allS (Or.inr sz623) (allS (Or.inr sz635) all0))
  have Zs647 := Nat.le_trans Zs638 K644.1
  have CR648 := CR639.trans (CHr.keep K644 (sfS f642 (sfS sf643 sf0)) CR639.1)
  have hk649 := Nat.le_trans hk640 K644.1
  have f650 := f641.keep K644
  have f651 := (Safe.keep K644 (sfS f642 (sfS sf643 sf0)) CR639.1 f642)
  have f652 := (Safe.keep K644 (sfS f642 (sfS sf643 sf0)) CR639.1 sf643)
  show OwnGo p e below (T644.setTop (mkF m 101 #[.val (.ref a1), .val (.int (1970 : Int32)), .val (.int (1 : Int32)), .val (.int (1 : Int32)), .val (.int (1970 : Int32)), .val (.ref b621)] [(.ref b621)])) _
  refine own_back (fun t k => XS.pop X644.here hx rfl (hb hby ldts_d101) rfl rfl k) ?_
  show OwnGo p e below (T644.setTop (mkF m 102 #[.val (.ref a1), .val (.int (1970 : Int32)), .val (.int (1 : Int32)), .val (.int (1 : Int32)), .val (.int (1970 : Int32)), .val (.ref b621)] [])) _
  refine own_back (fun t k => XS.aload X644.here hx rfl (hb hby ldts_d102) rfl rfl k) ?_
  show OwnGo p e below (T644.setTop (mkF m 104 #[.val (.ref a1), .val (.int (1970 : Int32)), .val (.int (1 : Int32)), .val (.int (1 : Int32)), .val (.int (1970 : Int32)), .val (.ref b621)] [(.ref b621)])) _
  refine own_back (fun t k => XS.iloadN X644.here hx rfl (hb hby ldts_d104) rfl k) ?_
  show OwnGo p e below (T644.setTop (mkF m 105 #[.val (.ref a1), .val (.int (1970 : Int32)), .val (.int (1 : Int32)), .val (.int (1 : Int32)), .val (.int (1970 : Int32)), .val (.ref b621)] [(.int (1 : Int32)), (.ref b621)])) _
  refine own_back (fun t k => XS.bipush X644.here hx rfl (hb hby ldts_d105) k) ?_
  show OwnGo p e below (T644.setTop (mkF m 107 #[.val (.ref a1), .val (.int (1970 : Int32)), .val (.int (1 : Int32)), .val (.int (1 : Int32)), .val (.int (1970 : Int32)), .val (.ref b621)] [(.int (10 : Int32)), (.int (1 : Int32)), (.ref b621)])) _
  refine own_back (fun t k => XS.icmpNo X644.here hx rfl (hb hby ldts_d107) rfl (Jvm.Free.XT.ii_ge_f (by decide)) k) ?_
  show OwnGo p e below (T644.setTop (mkF m 110 #[.val (.ref a1), .val (.int (1970 : Int32)), .val (.int (1 : Int32)), .val (.int (1 : Int32)), .val (.int (1970 : Int32)), .val (.ref b621)] [(.ref b621)])) _
  obtain ⟨a653, T653, h653, k1653, X653, e653, E653, hS653, hk653, hZ653, hown653, CRl653, hLit653, st653⟩ := own_ldcwOH X644 hx hZ hown (hw _ (List.mem_of_getElem? (i := 235) rfl)) (own_wS hw) rfl hS0 hk649 hEL CR648.1 (g := (mkF m 110 #[.val (.ref a1), .val (.int (1970 : Int32)), .val (.int (1 : Int32)), .val (.int (1 : Int32)), .val (.int (1970 : Int32)), .val (.ref b621)] [(.ref b621)])) rfl (hb hby ldts_d110) (n := 8) (Nat.le_of_ble_eq_true rfl) (by decide) (Nat.le_of_ble_eq_true rfl) (Nat.le_of_ble_eq_true rfl)
  obtain ⟨t653, kb653, EX653, FC653, FV653, AV653, sx653⟩ := own_litR (s := s) (EL := own_EL) (h := h653) hZ653 (hw _ (List.mem_of_getElem? (i := 235) rfl)) hown653 (List.mem_of_getElem? (i := 5) rfl) CRl653.1 hLit653 (vs := [(.int 45), (.int 48)]) (z := 2) ⟨by decide, by decide⟩ (by decide) (by decide)
  have O654 := O645.ext E653
  have KP655 := KP646.ext E653
  have Zs656 := Nat.le_trans Zs647 E653.1
  have CR657 := CR648.trans CRl653
  have f658 := f650.ext E653
  have f659 := (CRl653.safe f650.lt f651)
  have f660 := (CRl653.safe (OwnBd.ltT B644) f652)
  have f661 := (OwnBd.ext E653 B644)
  refine own_back st653 ?_
  show OwnGo p e below (T653.setTop (mkF m 113 #[.val (.ref a1), .val (.int (1970 : Int32)), .val (.int (1 : Int32)), .val (.int (1 : Int32)), .val (.int (1970 : Int32)), .val (.ref b621)] [(.ref a653), (.ref b621)])) _
  refine own_back (fun t k => XS.goto X653.here hx rfl (pc0 := 113) (pc' := 119) rfl (hb hby ldts_d113) (by decide) (by decide) k) ?_
  show OwnGo p e below (T653.setTop (mkF m 119 #[.val (.ref a1), .val (.int (1970 : Int32)), .val (.int (1 : Int32)), .val (.int (1 : Int32)), .val (.int (1970 : Int32)), .val (.ref b621)] [(.ref a653), (.ref b621)])) _
  have LS662 : OwnStr Z h653 a653 [45, 48] := ⟨t653, _, EX653, FC653, FV653, AV653, Nat.le_of_ble_eq_true rfl⟩
  obtain ⟨cq663, kq663, q663a, q663b, q663c⟩ := isOf hZ653 e653 f658
  obtain ⟨_, _, ⟨T663, L663, k663, n663⟩, -, X663, ⟨Lc663, hQ663, l663, y663, z663⟩, st663⟩ := X653.virtualBack hx (y := (⟨"java/lang/StringBuilder", "append", "(Ljava/lang/String;)Ljava/lang/StringBuilder;"⟩ : MethodName)) (z := (⟨"java/lang/StringBuilder", "append", "(Ljava/lang/String;)Ljava/lang/StringBuilder;"⟩ : MethodName)) hown653 (mvT hZ653 (hw _ (List.mem_of_getElem? (i := 236) rfl))) (mvT hZ653 (hw _ (List.mem_of_getElem? (i := 80) rfl))) (notFace_of_selects (args := #[]) (mvT hZ653 (hw _ (List.mem_of_getElem? (i := 82) rfl)))) (mvT hZ653 (hw _ (List.mem_of_getElem? (i := 82) rfl))) (mvT hZ653 (hw _ (List.mem_of_getElem? (i := 81) rfl))) (by decide) (own_backN (W := 0) (rm_sap l Z a0 hw [] b621 tb633 [49, 57, 55, 48, 0, 0, 0, 0, 0, 0] 4 a653 [45, 48] cz h653 n0 Zs656 O654 f661 LS662 ge622 ge634 (Nat.le_of_ble_eq_true rfl) SC hcz) hZ653 (hw _ (List.mem_of_getElem? (i := 83) rfl)) (hw _ (List.mem_of_getElem? (i := 63) rfl)) (by decide) (by decide)) q663a q663c (g := (mkF m 119 #[.val (.ref a1), .val (.int (1970 : Int32)), .val (.int (1 : Int32)), .val (.int (1 : Int32)), .val (.int (1970 : Int32)), .val (.ref b621)] [(.ref a653), (.ref b621)])) rfl (by rw [hml]; rfl) (Steps.refl _) (argsL := [(.ref a653)]) (rest := []) (lenOf ldts_pd3 rfl) rfl (by show 2 * 0 + _ ≤ _; exact Nat.le_of_eq rfl) (hb hby ldts_d119) (fun _ _ => ⟨rfl, e653, Nat.le_of_ble_eq_true rfl, Nat.le_of_ble_eq_true rfl⟩)
  dsimp only [Pt.U, Pt.locs, Pt.cells, Pt.slots] at X663 l663 y663 z663 st663 hQ663
  subst l663 y663 z663
  obtain ⟨rfl, N663q, K663, B663⟩ := hQ663
  refine own_seq st663 ?_
  have N663 := Fr.app N644 N663q
  have O664 := O654.keep K663 (allS ge622 (allS ge634 all0))
  have KP665 := KP655.trans K663 (allS (Or.inr sz623) (allS (Or.inr sz635) all0))
  have Zs666 := Nat.le_trans Zs656 K663.1
  have CR667 := CR657.trans (CHr.keep K663 (sfS f659 (sfS f660 sf0)) CR657.1)
  have hk668 := Nat.le_trans hk653 K663.1
  have f669 := f658.keep K663
  have f670 := (Safe.keep K663 (sfS f659 (sfS f660 sf0)) CR657.1 f659)
  have f671 := (Safe.keep K663 (sfS f659 (sfS f660 sf0)) CR657.1 f660)
  have Bd672 : OwnBd Z T663.heap b621 tb633 [49, 57, 55, 48, 45, 48, 0, 0, 0, 0] 6 := own_bdcast rfl rfl B663
  show OwnGo p e below (T663.setTop (mkF m 122 #[.val (.ref a1), .val (.int (1970 : Int32)), .val (.int (1 : Int32)), .val (.int (1 : Int32)), .val (.int (1970 : Int32)), .val (.ref b621)] [(.ref b621)])) _
  refine own_back (fun t k => XS.iloadN X663.here hx rfl (hb hby ldts_d122) rfl k) ?_
  show OwnGo p e below (T663.setTop (mkF m 123 #[.val (.ref a1), .val (.int (1970 : Int32)), .val (.int (1 : Int32)), .val (.int (1 : Int32)), .val (.int (1970 : Int32)), .val (.ref b621)] [(.int (1 : Int32)), (.ref b621)])) _
  obtain ⟨cq673, kq673, q673a, q673b, q673c⟩ := isOf hZ653 rfl f669
  obtain ⟨_, _, ⟨T673, L673, k673, n673⟩, -, X673, ⟨Lc673, hQ673, l673, y673, z673⟩, st673⟩ := X663.virtualBack hx (y := (⟨"java/lang/StringBuilder", "append", "(I)Ljava/lang/StringBuilder;"⟩ : MethodName)) (z := (⟨"java/lang/StringBuilder", "append", "(I)Ljava/lang/StringBuilder;"⟩ : MethodName)) hown653 (mvT hZ653 (hw _ (List.mem_of_getElem? (i := 212) rfl))) (mvT hZ653 (hw _ (List.mem_of_getElem? (i := 213) rfl))) (notFace_of_selects (args := #[]) (mvT hZ653 (hw _ (List.mem_of_getElem? (i := 215) rfl)))) (mvT hZ653 (hw _ (List.mem_of_getElem? (i := 215) rfl))) (mvT hZ653 (hw _ (List.mem_of_getElem? (i := 214) rfl))) (by decide) (own_backN (W := 0) (rm_sai1_6 l Z a0 hw [] b621 tb633 49 57 55 48 45 48 0 0 0 0 wO wT kO kT cz T663.heap n0 Zs666 O664 Bd672 ge622 ge634 SO1 SO2 AO1 AO2 SC hcz) hZ653 (hw _ (List.mem_of_getElem? (i := 216) rfl)) (hw _ (List.mem_of_getElem? (i := 63) rfl)) (by decide) (by decide)) q673a q673c (g := (mkF m 123 #[.val (.ref a1), .val (.int (1970 : Int32)), .val (.int (1 : Int32)), .val (.int (1 : Int32)), .val (.int (1970 : Int32)), .val (.ref b621)] [(.int (1 : Int32)), (.ref b621)])) rfl (by rw [hml]; rfl) (Steps.refl _) (argsL := [(.int (1 : Int32))]) (rest := []) (lenOf ldts_pd2 rfl) rfl (by show 2 * 0 + _ ≤ _; exact Nat.le_of_eq rfl) (hb hby ldts_d123) (fun _ _ => ⟨rfl, rfl, Nat.le_of_ble_eq_true rfl, Nat.le_of_ble_eq_true rfl⟩)
  dsimp only [Pt.U, Pt.locs, Pt.cells, Pt.slots] at X673 l673 y673 z673 st673 hQ673
  subst l673 y673 z673
  obtain ⟨rfl, N673q, K673, B673⟩ := hQ673
  refine own_seq st673 ?_
  have N673 := Fr.app N663 N673q
  have O674 := O664.keep K673 (allS ge622 (allS ge634 all0))
  have KP675 := KP665.trans K673 (allS (Or.inr sz623) (allS (Or.inr sz635) all0))
  have Zs676 := Nat.le_trans Zs666 K673.1
  have CR677 := CR667.trans (CHr.keep K673 (sfS f670 (sfS f671 sf0)) CR667.1)
  have hk678 := Nat.le_trans hk668 K673.1
  have f679 := f669.keep K673
  have f680 := (Safe.keep K673 (sfS f670 (sfS f671 sf0)) CR667.1 f670)
  have f681 := (Safe.keep K673 (sfS f670 (sfS f671 sf0)) CR667.1 f671)
  show OwnGo p e below (T673.setTop (mkF m 126 #[.val (.ref a1), .val (.int (1970 : Int32)), .val (.int (1 : Int32)), .val (.int (1 : Int32)), .val (.int (1970 : Int32)), .val (.ref b621)] [(.ref b621)])) _
  refine own_back (fun t k => XS.iloadN X673.here hx rfl (hb hby ldts_d126) rfl k) ?_
  show OwnGo p e below (T673.setTop (mkF m 127 #[.val (.ref a1), .val (.int (1970 : Int32)), .val (.int (1 : Int32)), .val (.int (1 : Int32)), .val (.int (1970 : Int32)), .val (.ref b621)] [(.int (1 : Int32)), (.ref b621)])) _
  refine own_back (fun t k => XS.bipush X673.here hx rfl (hb hby ldts_d127) k) ?_
  show OwnGo p e below (T673.setTop (mkF m 129 #[.val (.ref a1), .val (.int (1970 : Int32)), .val (.int (1 : Int32)), .val (.int (1 : Int32)), .val (.int (1970 : Int32)), .val (.ref b621)] [(.int (10 : Int32)), (.int (1 : Int32)), (.ref b621)])) _
  refine own_back (fun t k => XS.icmpNo X673.here hx rfl (hb hby ldts_d129) rfl (Jvm.Free.XT.ii_ge_f (by decide)) k) ?_
  show OwnGo p e below (T673.setTop (mkF m 132 #[.val (.ref a1), .val (.int (1970 : Int32)), .val (.int (1 : Int32)), .val (.int (1 : Int32)), .val (.int (1970 : Int32)), .val (.ref b621)] [(.ref b621)])) _
  obtain ⟨a682, T682, h682, k1682, X682, e682, E682, hS682, hk682, hZ682, hown682, CRl682, hLit682, st682⟩ := own_ldcwOH X673 hx hZ653 hown653 (hw _ (List.mem_of_getElem? (i := 235) rfl)) (own_wS hw) rfl hS653 hk678 hEL CR677.1 (g := (mkF m 132 #[.val (.ref a1), .val (.int (1970 : Int32)), .val (.int (1 : Int32)), .val (.int (1 : Int32)), .val (.int (1970 : Int32)), .val (.ref b621)] [(.ref b621)])) rfl (hb hby ldts_d132) (n := 8) (Nat.le_of_ble_eq_true rfl) (by decide) (Nat.le_of_ble_eq_true rfl) (Nat.le_of_ble_eq_true rfl)
  obtain ⟨t682, kb682, EX682, FC682, FV682, AV682, sx682⟩ := own_litR (s := s) (EL := own_EL) (h := h682) hZ682 (hw _ (List.mem_of_getElem? (i := 235) rfl)) hown682 (List.mem_of_getElem? (i := 5) rfl) CRl682.1 hLit682 (vs := [(.int 45), (.int 48)]) (z := 2) ⟨by decide, by decide⟩ (by decide) (by decide)
  have O683 := O674.ext E682
  have KP684 := KP675.ext E682
  have Zs685 := Nat.le_trans Zs676 E682.1
  have CR686 := CR677.trans CRl682
  have f687 := f679.ext E682
  have f688 := (CRl682.safe f679.lt f680)
  have f689 := (CRl682.safe (OwnBd.ltT B673) f681)
  have f690 := (OwnBd.ext E682 B673)
  refine own_back st682 ?_
  show OwnGo p e below (T682.setTop (mkF m 135 #[.val (.ref a1), .val (.int (1970 : Int32)), .val (.int (1 : Int32)), .val (.int (1 : Int32)), .val (.int (1970 : Int32)), .val (.ref b621)] [(.ref a682), (.ref b621)])) _
  refine own_back (fun t k => XS.goto X682.here hx rfl (pc0 := 135) (pc' := 141) rfl (hb hby ldts_d135) (by decide) (by decide) k) ?_
  show OwnGo p e below (T682.setTop (mkF m 141 #[.val (.ref a1), .val (.int (1970 : Int32)), .val (.int (1 : Int32)), .val (.int (1 : Int32)), .val (.int (1970 : Int32)), .val (.ref b621)] [(.ref a682), (.ref b621)])) _
  have LS691 : OwnStr Z h682 a682 [45, 48] := ⟨t682, _, EX682, FC682, FV682, AV682, Nat.le_of_ble_eq_true rfl⟩
  obtain ⟨cq692, kq692, q692a, q692b, q692c⟩ := isOf hZ682 e682 f687
  obtain ⟨_, _, ⟨T692, L692, k692, n692⟩, -, X692, ⟨Lc692, hQ692, l692, y692, z692⟩, st692⟩ := X682.virtualBack hx (y := (⟨"java/lang/StringBuilder", "append", "(Ljava/lang/String;)Ljava/lang/StringBuilder;"⟩ : MethodName)) (z := (⟨"java/lang/StringBuilder", "append", "(Ljava/lang/String;)Ljava/lang/StringBuilder;"⟩ : MethodName)) hown682 (mvT hZ682 (hw _ (List.mem_of_getElem? (i := 236) rfl))) (mvT hZ682 (hw _ (List.mem_of_getElem? (i := 80) rfl))) (notFace_of_selects (args := #[]) (mvT hZ682 (hw _ (List.mem_of_getElem? (i := 82) rfl)))) (mvT hZ682 (hw _ (List.mem_of_getElem? (i := 82) rfl))) (mvT hZ682 (hw _ (List.mem_of_getElem? (i := 81) rfl))) (by decide) (own_backN (W := 0) (rm_sap l Z a0 hw [] b621 tb633 [49, 57, 55, 48, 45, 48, 49, 0, 0, 0] 7 a682 [45, 48] cz h682 n0 Zs685 O683 f690 LS691 ge622 ge634 (Nat.le_of_ble_eq_true rfl) SC hcz) hZ682 (hw _ (List.mem_of_getElem? (i := 83) rfl)) (hw _ (List.mem_of_getElem? (i := 63) rfl)) (by decide) (by decide)) q692a q692c (g := (mkF m 141 #[.val (.ref a1), .val (.int (1970 : Int32)), .val (.int (1 : Int32)), .val (.int (1 : Int32)), .val (.int (1970 : Int32)), .val (.ref b621)] [(.ref a682), (.ref b621)])) rfl (by rw [hml]; rfl) (Steps.refl _) (argsL := [(.ref a682)]) (rest := []) (lenOf ldts_pd3 rfl) rfl (by show 2 * 0 + _ ≤ _; exact Nat.le_of_eq rfl) (hb hby ldts_d141) (fun _ _ => ⟨rfl, e682, Nat.le_of_ble_eq_true rfl, Nat.le_of_ble_eq_true rfl⟩)
  dsimp only [Pt.U, Pt.locs, Pt.cells, Pt.slots] at X692 l692 y692 z692 st692 hQ692
  subst l692 y692 z692
  obtain ⟨rfl, N692q, K692, B692⟩ := hQ692
  refine own_seq st692 ?_
  have N692 := Fr.app N673 N692q
  have O693 := O683.keep K692 (allS ge622 (allS ge634 all0))
  have KP694 := KP684.trans K692 (allS (Or.inr sz623) (allS (Or.inr sz635) all0))
  have Zs695 := Nat.le_trans Zs685 K692.1
  have CR696 := CR686.trans (CHr.keep K692 (sfS f688 (sfS f689 sf0)) CR686.1)
  have hk697 := Nat.le_trans hk682 K692.1
  have f698 := f687.keep K692
  have f699 := (Safe.keep K692 (sfS f688 (sfS f689 sf0)) CR686.1 f688)
  have f700 := (Safe.keep K692 (sfS f688 (sfS f689 sf0)) CR686.1 f689)
  have Bd701 : OwnBd Z T692.heap b621 tb633 [49, 57, 55, 48, 45, 48, 49, 45, 48, 0] 9 := own_bdcast rfl rfl B692
  show OwnGo p e below (T692.setTop (mkF m 144 #[.val (.ref a1), .val (.int (1970 : Int32)), .val (.int (1 : Int32)), .val (.int (1 : Int32)), .val (.int (1970 : Int32)), .val (.ref b621)] [(.ref b621)])) _
  refine own_back (fun t k => XS.iloadN X692.here hx rfl (hb hby ldts_d144) rfl k) ?_
  show OwnGo p e below (T692.setTop (mkF m 145 #[.val (.ref a1), .val (.int (1970 : Int32)), .val (.int (1 : Int32)), .val (.int (1 : Int32)), .val (.int (1970 : Int32)), .val (.ref b621)] [(.int (1 : Int32)), (.ref b621)])) _
  obtain ⟨cq702, kq702, q702a, q702b, q702c⟩ := isOf hZ682 rfl f698
  obtain ⟨_, _, ⟨T702, L702, k702, n702⟩, -, X702, ⟨Lc702, hQ702, l702, y702, z702⟩, st702⟩ := X692.virtualBack hx (y := (⟨"java/lang/StringBuilder", "append", "(I)Ljava/lang/StringBuilder;"⟩ : MethodName)) (z := (⟨"java/lang/StringBuilder", "append", "(I)Ljava/lang/StringBuilder;"⟩ : MethodName)) hown682 (mvT hZ682 (hw _ (List.mem_of_getElem? (i := 212) rfl))) (mvT hZ682 (hw _ (List.mem_of_getElem? (i := 213) rfl))) (notFace_of_selects (args := #[]) (mvT hZ682 (hw _ (List.mem_of_getElem? (i := 215) rfl)))) (mvT hZ682 (hw _ (List.mem_of_getElem? (i := 215) rfl))) (mvT hZ682 (hw _ (List.mem_of_getElem? (i := 214) rfl))) (by decide) (own_backN (W := 0) (rm_sai1_9 l Z a0 hw [] b621 tb633 49 57 55 48 45 48 49 45 48 0 wO wT kO kT cz T692.heap n0 Zs695 O693 Bd701 ge622 ge634 SO1 SO2 AO1 AO2 SC hcz) hZ682 (hw _ (List.mem_of_getElem? (i := 216) rfl)) (hw _ (List.mem_of_getElem? (i := 63) rfl)) (by decide) (by decide)) q702a q702c (g := (mkF m 145 #[.val (.ref a1), .val (.int (1970 : Int32)), .val (.int (1 : Int32)), .val (.int (1 : Int32)), .val (.int (1970 : Int32)), .val (.ref b621)] [(.int (1 : Int32)), (.ref b621)])) rfl (by rw [hml]; rfl) (Steps.refl _) (argsL := [(.int (1 : Int32))]) (rest := []) (lenOf ldts_pd2 rfl) rfl (by show 2 * 0 + _ ≤ _; exact Nat.le_of_eq rfl) (hb hby ldts_d145) (fun _ _ => ⟨rfl, rfl, Nat.le_of_ble_eq_true rfl, Nat.le_of_ble_eq_true rfl⟩)
  dsimp only [Pt.U, Pt.locs, Pt.cells, Pt.slots] at X702 l702 y702 z702 st702 hQ702
  subst l702 y702 z702
  obtain ⟨rfl, N702q, K702, B702⟩ := hQ702
  refine own_seq st702 ?_
  have N702 := Fr.app N692 N702q
  have O703 := O693.keep K702 (allS ge622 (allS ge634 all0))
  have KP704 := KP694.trans K702 (allS (Or.inr sz623) (allS (Or.inr sz635) all0))
  have Zs705 := Nat.le_trans Zs695 K702.1
  have CR706 := CR696.trans (CHr.keep K702 (sfS f699 (sfS f700 sf0)) CR696.1)
  have hk707 := Nat.le_trans hk697 K702.1
  have f708 := f698.keep K702
  have f709 := (Safe.keep K702 (sfS f699 (sfS f700 sf0)) CR696.1 f699)
  have f710 := (Safe.keep K702 (sfS f699 (sfS f700 sf0)) CR696.1 f700)
  show OwnGo p e below (T702.setTop (mkF m 148 #[.val (.ref a1), .val (.int (1970 : Int32)), .val (.int (1 : Int32)), .val (.int (1 : Int32)), .val (.int (1970 : Int32)), .val (.ref b621)] [(.ref b621)])) _
  obtain ⟨cq711, kq711, q711a, q711b, q711c⟩ := isOf hZ682 rfl f708
  obtain ⟨_, _, ⟨T711, L711, k711, n711⟩, -, X711, ⟨Lc711, hQ711, l711, y711, z711⟩, st711⟩ := X702.virtualBack hx (y := (⟨"java/lang/StringBuilder", "toString", "()Ljava/lang/String;"⟩ : MethodName)) (z := (⟨"java/lang/StringBuilder", "toString", "()Ljava/lang/String;"⟩ : MethodName)) hown682 (mvT hZ682 (hw _ (List.mem_of_getElem? (i := 237) rfl))) (mvT hZ682 (hw _ (List.mem_of_getElem? (i := 238) rfl))) (notFace_of_selects (args := #[]) (mvT hZ682 (hw _ (List.mem_of_getElem? (i := 240) rfl)))) (mvT hZ682 (hw _ (List.mem_of_getElem? (i := 240) rfl))) (mvT hZ682 (hw _ (List.mem_of_getElem? (i := 239) rfl))) (by decide) (own_backN (W := 0) (rm_sts10 l Z a0 hw [] b621 tb633 49 57 55 48 45 48 49 45 48 49 cz T702.heap n0 Zs705 O703 B702 SC hcz) hZ682 (hw _ (List.mem_of_getElem? (i := 241) rfl)) (hw _ (List.mem_of_getElem? (i := 63) rfl)) (by decide) (by decide)) q711a q711c (g := (mkF m 148 #[.val (.ref a1), .val (.int (1970 : Int32)), .val (.int (1 : Int32)), .val (.int (1 : Int32)), .val (.int (1970 : Int32)), .val (.ref b621)] [(.ref b621)])) rfl (by rw [hml]; rfl) (Steps.refl _) (argsL := []) (rest := []) (lenOf ldts_pd4 rfl) rfl (by show 2 * 0 + _ ≤ _; exact Nat.le_of_eq rfl) (hb hby ldts_d148) (fun _ _ => ⟨rfl, rfl, Nat.le_of_ble_eq_true rfl, Nat.le_of_ble_eq_true rfl⟩)
  dsimp only [Pt.U, Pt.locs, Pt.cells, Pt.slots] at X711 l711 y711 z711 st711 hQ711
  subst l711 y711 z711
  obtain ⟨ar711, rfl, N711q, E711, R711⟩ := hQ711
  refine own_seq st711 ?_
  have N711 := Fr.app N702 N711q
  have O712 := O703.ext E711
  have KP713 := KP704.ext E711
  have Zs714 := Nat.le_trans Zs705 E711.1
  have CR715 := CR706.trans (CHr.ext E711 CR706.1)
  have hk716 := Nat.le_trans hk707 E711.1
  have f717 := f708.ext E711
  have f718 := (Safe.ext E711 CR706.1 f709)
  have f719 := (Safe.ext E711 CR706.1 f710)
  have f720 := (OwnBd.ext E711 B702)
  show OwnGo p e below (T711.setTop (mkF m 151 #[.val (.ref a1), .val (.int (1970 : Int32)), .val (.int (1 : Int32)), .val (.int (1 : Int32)), .val (.int (1970 : Int32)), .val (.ref b621)] [(.ref ar711)])) _
  refine own_retAW X711 hx Bd.notSynchronized Bd.returns rfl rfl hS682 hk716 hZ682 hEL (hh ▸ CR715) (hb hby ldts_d151) rfl (Nat.le_of_ble_eq_true rfl) (Nat.le_of_ble_eq_true rfl) ?_
  exact ⟨_, rfl, N711, own_ext KP713, R711⟩
theorem pin_d0 : decode prog_5_method_1_code 0 = .ok (.aload_n 0, 1) := by decide +kernel
theorem pin_d1 : decode prog_5_method_1_code 1 = .ok (.invokespecial 1, 3) := by decide +kernel
theorem pin_d4 : decode prog_5_method_1_code 4 = .ok (.aload_n 0, 1) := by decide +kernel
theorem pin_d5 : decode prog_5_method_1_code 5 = .ok (.aload_n 1, 1) := by decide +kernel
theorem pin_d6 : decode prog_5_method_1_code 6 = .ok (.putfield 7, 3) := by decide +kernel
theorem pin_d9 : decode prog_5_method_1_code 9 = .ok (.aload_n 0, 1) := by decide +kernel
theorem pin_d10 : decode prog_5_method_1_code 10 = .ok (.iload_n 2, 1) := by decide +kernel
theorem pin_d11 : decode prog_5_method_1_code 11 = .ok (.putfield 13, 3) := by decide +kernel
theorem pin_d14 : decode prog_5_method_1_code 14 = .ok (.aload_n 0, 1) := by decide +kernel
theorem pin_d15 : decode prog_5_method_1_code 15 = .ok (.lload_n 3, 1) := by decide +kernel
theorem pin_d16 : decode prog_5_method_1_code 16 = .ok (.putfield 17, 3) := by decide +kernel
theorem pin_d19 : decode prog_5_method_1_code 19 = .ok (.aload_n 0, 1) := by decide +kernel
theorem pin_d20 : decode prog_5_method_1_code 20 = .ok (.lload 5, 2) := by decide +kernel
theorem pin_d22 : decode prog_5_method_1_code 22 = .ok (.putfield 21, 3) := by decide +kernel
theorem pin_d25 : decode prog_5_method_1_code 25 = .ok (.return_, 1) := by decide +kernel
theorem pin_pn : plainName "com/example/sorted_set_patterns/sortedsetpatterns/Periods" = true := by first | (simp [plainName, overriddenIn]; done) | decide +kernel
theorem pin_ef (m : MethodId) (x0 : Addr) (x1 : Addr) (x2 : Int32) (x3 : Int64) (x4 : Int64) : entryFrame m #[(.ref x0), (.ref x1), (.int x2), (.long x3), (.long x4)] 7 = mkF m 0 #[.val (.ref x0), .val (.ref x1), .val (.int x2), .val (.long x3), .second, .val (.long x4), .second] [] := by first | (simp [entryFrame, mkF, argsToLocals, Value.category]; done) | rfl
set_option maxRecDepth 65536 in
set_option maxHeartbeats 40000000 in
theorem rm_pin (l : Launch) (Z : State) (a0 : Array Value) (hw : ∀ d ∈ tables_1, d.before a0 Z = true) (ws : List Jvm.Cond) (a1 : Addr) (ak : Addr) (h0 : Heap) (n0 : Nat) (Z0 : n0 ≤ h0.size) (OL : Old Z n0 h0) (E1 : Exa Z h0 a1 "com/example/sorted_set_patterns/sortedsetpatterns/Periods") (G0 : Fld Z h0 a1 "com/example/sorted_set_patterns/sortedsetpatterns/Periods" "kind" "Ljava/lang/String;" .null) (G1 : Fld Z h0 a1 "com/example/sorted_set_patterns/sortedsetpatterns/Periods" "dated" "Z" (.int 0)) (G2 : Fld Z h0 a1 "com/example/sorted_set_patterns/sortedsetpatterns/Periods" "origin" "J" (.long 0)) (G3 : Fld Z h0 a1 "com/example/sorted_set_patterns/sortedsetpatterns/Periods" "length" "J" (.long 0)) (g1 : n0 ≤ a1) :
    MetFree l (⟨"com/example/sorted_set_patterns/sortedsetpatterns/Periods", "<init>", "(Ljava/lang/String;ZJJ)V"⟩ : MethodName) (head1 (Jvm.Cond.code (⟨"com/example/sorted_set_patterns/sortedsetpatterns/Periods", "<init>", "(Ljava/lang/String;ZJJ)V"⟩ : MethodName) prog_5_method_1_code 7 none :: ws) ({ frames := 1, cells := 0, slots := 0, locals := 14 } : Room)) (fun a U => a = #[(.ref a1), (.ref ak), (.int (1 : Int32)), (.long (0 : Int64)), (.long (86400000 : Int64))] ∧ Z.Warmed39 U.vm ∧ U.heap = h0) (fun _ _ _ _ _ => True) (fun _ U o U' => OwnEnd U (fun v h L => v = none ∧ Fr n0 L ∧ Keep h0 h [a1] ∧ Exa Z h a1 "com/example/sorted_set_patterns/sortedsetpatterns/Periods" ∧ Fld Z h a1 "com/example/sorted_set_patterns/sortedsetpatterns/Periods" "kind" "Ljava/lang/String;" (.ref ak) ∧ Fld Z h a1 "com/example/sorted_set_patterns/sortedsetpatterns/Periods" "dated" "Z" (.int 1) ∧ Fld Z h a1 "com/example/sorted_set_patterns/sortedsetpatterns/Periods" "origin" "J" (.long 0) ∧ Fld Z h a1 "com/example/sorted_set_patterns/sortedsetpatterns/Periods" "length" "J" (.long 86400000)) ({ frames := 1, cells := 0, slots := 0, locals := 14 } : Room).cells ({ frames := 1, cells := 0, slots := 0, locals := 14 } : Room).slots o U') := by
  refine MetFree.of_bodySF (plainFor_of_name pin_pn) hisR ?_
  intro p e s m args below meth c s₁ Bd hml0 hP hK
  obtain ⟨rfl, hZ, hh⟩ := hP
  have hx := Bd.exec
  have hby := Bd.bytes
  have hml : c.maxLocals = 7 := hml0
  have hown : s.vm.findClass "com/example/sorted_set_patterns/sortedsetpatterns/Periods" = some m.cls := findClass_of_methodNamed Bd.named
  have hnm := (name_of_methodNamed Bd.named Bd.method).1
  have X0 : Stand p l e ({ frames := 1, cells := 0, slots := 0, locals := 14 } : Room) s m #[(.ref a1), (.ref ak), (.int (1 : Int32)), (.long (0 : Int64)), (.long (86400000 : Int64))] below meth c s₁ [] 0 0 := Stand.of_body Bd
  have e0 : s₁.heap = h0 := by rw [← hh, Bd.state]; rfl
  have N0 := Fr.nil n0
  have KP0 := Keep.refl h0 [a1]
  refine own_go (Q := (OwnEnd s (fun v h L => v = none ∧ Fr n0 L ∧ Keep h0 h [a1] ∧ Exa Z h a1 "com/example/sorted_set_patterns/sortedsetpatterns/Periods" ∧ Fld Z h a1 "com/example/sorted_set_patterns/sortedsetpatterns/Periods" "kind" "Ljava/lang/String;" (.ref ak) ∧ Fld Z h a1 "com/example/sorted_set_patterns/sortedsetpatterns/Periods" "dated" "Z" (.int 1) ∧ Fld Z h a1 "com/example/sorted_set_patterns/sortedsetpatterns/Periods" "origin" "J" (.long 0) ∧ Fld Z h a1 "com/example/sorted_set_patterns/sortedsetpatterns/Periods" "length" "J" (.long 86400000)) ({ frames := 1, cells := 0, slots := 0, locals := 14 } : Room).cells ({ frames := 1, cells := 0, slots := 0, locals := 14 } : Room).slots)) ?_
  refine own_back (fun t k => castTop (pin_ef m a1 ak (1 : Int32) (0 : Int64) (86400000 : Int64)) k) ?_
  show OwnGo p e below (s₁.setTop (mkF m 0 #[.val (.ref a1), .val (.ref ak), .val (.int (1 : Int32)), .val (.long (0 : Int64)), .second, .val (.long (86400000 : Int64)), .second] [])) _
  refine own_back (fun t k => XS.aloadN X0.here hx rfl (hb hby pin_d0) rfl rfl k) ?_
  show OwnGo p e below (s₁.setTop (mkF m 1 #[.val (.ref a1), .val (.ref ak), .val (.int (1 : Int32)), .val (.long (0 : Int64)), .second, .val (.long (86400000 : Int64)), .second] [(.ref a1)])) _
  obtain ⟨T721, X721, e721, st721⟩ := initO X0 hx hZ hown (hw _ (List.mem_of_getElem? (i := 21) rfl)) (hw _ (List.mem_of_getElem? (i := 22) rfl)) (hw _ (List.mem_of_getElem? (i := 23) rfl)) e0 (g := (mkF m 1 #[.val (.ref a1), .val (.ref ak), .val (.int (1 : Int32)), .val (.long (0 : Int64)), .second, .val (.long (86400000 : Int64)), .second] [(.ref a1)])) rfl (by rw [hml]; rfl) rfl (hb hby pin_d1) (by decide) (W := 0) (by show 2 * 0 + _ ≤ _; exact Nat.le_of_eq rfl) (by decide)
  refine own_back st721 ?_
  show OwnGo p e below (T721.setTop (mkF m 4 #[.val (.ref a1), .val (.ref ak), .val (.int (1 : Int32)), .val (.long (0 : Int64)), .second, .val (.long (86400000 : Int64)), .second] [])) _
  refine own_back (fun t k => XS.aloadN X721.here hx rfl (hb hby pin_d4) rfl rfl k) ?_
  show OwnGo p e below (T721.setTop (mkF m 5 #[.val (.ref a1), .val (.ref ak), .val (.int (1 : Int32)), .val (.long (0 : Int64)), .second, .val (.long (86400000 : Int64)), .second] [(.ref a1)])) _
  refine own_back (fun t k => XS.aloadN X721.here hx rfl (hb hby pin_d5) rfl rfl k) ?_
  show OwnGo p e below (T721.setTop (mkF m 6 #[.val (.ref a1), .val (.ref ak), .val (.int (1 : Int32)), .val (.long (0 : Int64)), .second, .val (.long (86400000 : Int64)), .second] [(.ref ak), (.ref a1)])) _
  obtain ⟨T722, h722, X722, e722, W722, st722⟩ := putF X721 hx hZ hown (host := "") (Or.inl (hw _ (List.mem_of_getElem? (i := 24) rfl))) Via.refl e721 G0 E1 (Or.inr ⟨(hw _ (List.mem_of_getElem? (i := 25) rfl)), rfl, hnm⟩) (hw _ (List.mem_of_getElem? (i := 8) rfl)) (ty := (.object "java/lang/String")) (by decide) rfl rfl (g := (mkF m 6 #[.val (.ref a1), .val (.ref ak), .val (.int (1 : Int32)), .val (.long (0 : Int64)), .second, .val (.long (86400000 : Int64)), .second] [(.ref ak), (.ref a1)])) rfl rfl (hb hby pin_d6)
  have O723 := OL.wr W722 g1
  have KP724 := KP0.wr W722 (Or.inl (List.mem_of_getElem? (i := 0) rfl))
  have Zs725 := Nat.le_trans Z0 (Keep.of_wr W722).1
  have f726 := E1.wr W722
  have f727 := G1.other W722 (Or.inr (slot_ne (Or.inr (hw _ (List.mem_of_getElem? (i := 27) rfl))) (Or.inr (hw _ (List.mem_of_getElem? (i := 25) rfl))) (by decide) (t := .boolean) (t' := (.object "java/lang/String")) (by decide) (by decide)))
  have f728 := G2.other W722 (Or.inr (slot_ne (Or.inr (hw _ (List.mem_of_getElem? (i := 29) rfl))) (Or.inr (hw _ (List.mem_of_getElem? (i := 25) rfl))) (by decide) (t := .long) (t' := (.object "java/lang/String")) (by decide) (by decide)))
  have f729 := G3.other W722 (Or.inr (slot_ne (Or.inr (hw _ (List.mem_of_getElem? (i := 31) rfl))) (Or.inr (hw _ (List.mem_of_getElem? (i := 25) rfl))) (by decide) (t := .long) (t' := (.object "java/lang/String")) (by decide) (by decide)))
  have F730 := G0.same W722
  have N731 := Fr.snoc X722 N0 g1
  refine own_back st722 ?_
  show OwnGo p e below (T722.setTop (mkF m 9 #[.val (.ref a1), .val (.ref ak), .val (.int (1 : Int32)), .val (.long (0 : Int64)), .second, .val (.long (86400000 : Int64)), .second] [])) _
  refine own_back (fun t k => XS.aloadN X722.here hx rfl (hb hby pin_d9) rfl rfl k) ?_
  show OwnGo p e below (T722.setTop (mkF m 10 #[.val (.ref a1), .val (.ref ak), .val (.int (1 : Int32)), .val (.long (0 : Int64)), .second, .val (.long (86400000 : Int64)), .second] [(.ref a1)])) _
  refine own_back (fun t k => XS.iloadN X722.here hx rfl (hb hby pin_d10) rfl k) ?_
  show OwnGo p e below (T722.setTop (mkF m 11 #[.val (.ref a1), .val (.ref ak), .val (.int (1 : Int32)), .val (.long (0 : Int64)), .second, .val (.long (86400000 : Int64)), .second] [(.int (1 : Int32)), (.ref a1)])) _
  obtain ⟨T732, h732, X732, e732, W732, st732⟩ := putF X722 hx hZ hown (host := "") (Or.inl (hw _ (List.mem_of_getElem? (i := 26) rfl))) Via.refl e722 f727 f726 (Or.inr ⟨(hw _ (List.mem_of_getElem? (i := 27) rfl)), rfl, hnm⟩) (hw _ (List.mem_of_getElem? (i := 8) rfl)) (ty := .boolean) (by decide) rfl rfl (g := (mkF m 11 #[.val (.ref a1), .val (.ref ak), .val (.int (1 : Int32)), .val (.long (0 : Int64)), .second, .val (.long (86400000 : Int64)), .second] [(.int (1 : Int32)), (.ref a1)])) rfl rfl (hb hby pin_d11)
  have O733 := O723.wr W732 g1
  have KP734 := KP724.wr W732 (Or.inl (List.mem_of_getElem? (i := 0) rfl))
  have Zs735 := Nat.le_trans Zs725 (Keep.of_wr W732).1
  have f736 := f726.wr W732
  have f737 := f728.other W732 (Or.inr (slot_ne (Or.inr (hw _ (List.mem_of_getElem? (i := 29) rfl))) (Or.inr (hw _ (List.mem_of_getElem? (i := 27) rfl))) (by decide) (t := .long) (t' := .boolean) (by decide) (by decide)))
  have f738 := f729.other W732 (Or.inr (slot_ne (Or.inr (hw _ (List.mem_of_getElem? (i := 31) rfl))) (Or.inr (hw _ (List.mem_of_getElem? (i := 27) rfl))) (by decide) (t := .long) (t' := .boolean) (by decide) (by decide)))
  have f739 := F730.other W732 (Or.inr (slot_ne (Or.inr (hw _ (List.mem_of_getElem? (i := 25) rfl))) (Or.inr (hw _ (List.mem_of_getElem? (i := 27) rfl))) (by decide) (t := (.object "java/lang/String")) (t' := .boolean) (by decide) (by decide)))
  have F740 := f727.same W732
  have N741 := Fr.snoc X732 N731 g1
  refine own_back st732 ?_
  show OwnGo p e below (T732.setTop (mkF m 14 #[.val (.ref a1), .val (.ref ak), .val (.int (1 : Int32)), .val (.long (0 : Int64)), .second, .val (.long (86400000 : Int64)), .second] [])) _
  refine own_back (fun t k => XS.aloadN X732.here hx rfl (hb hby pin_d14) rfl rfl k) ?_
  show OwnGo p e below (T732.setTop (mkF m 15 #[.val (.ref a1), .val (.ref ak), .val (.int (1 : Int32)), .val (.long (0 : Int64)), .second, .val (.long (86400000 : Int64)), .second] [(.ref a1)])) _
  refine own_back (fun t k => XS.lloadN X732.here hx rfl (hb hby pin_d15) rfl k) ?_
  show OwnGo p e below (T732.setTop (mkF m 16 #[.val (.ref a1), .val (.ref ak), .val (.int (1 : Int32)), .val (.long (0 : Int64)), .second, .val (.long (86400000 : Int64)), .second] [(.long (0 : Int64)), (.ref a1)])) _
  obtain ⟨T742, h742, X742, e742, W742, st742⟩ := putF X732 hx hZ hown (host := "") (Or.inl (hw _ (List.mem_of_getElem? (i := 28) rfl))) Via.refl e732 f737 f736 (Or.inr ⟨(hw _ (List.mem_of_getElem? (i := 29) rfl)), rfl, hnm⟩) (hw _ (List.mem_of_getElem? (i := 8) rfl)) (ty := .long) (by decide) rfl rfl (g := (mkF m 16 #[.val (.ref a1), .val (.ref ak), .val (.int (1 : Int32)), .val (.long (0 : Int64)), .second, .val (.long (86400000 : Int64)), .second] [(.long (0 : Int64)), (.ref a1)])) rfl rfl (hb hby pin_d16)
  have O743 := O733.wr W742 g1
  have KP744 := KP734.wr W742 (Or.inl (List.mem_of_getElem? (i := 0) rfl))
  have Zs745 := Nat.le_trans Zs735 (Keep.of_wr W742).1
  have f746 := f736.wr W742
  have f747 := f738.other W742 (Or.inr (slot_ne (Or.inr (hw _ (List.mem_of_getElem? (i := 31) rfl))) (Or.inr (hw _ (List.mem_of_getElem? (i := 29) rfl))) (by decide) (t := .long) (t' := .long) (by decide) (by decide)))
  have f748 := f739.other W742 (Or.inr (slot_ne (Or.inr (hw _ (List.mem_of_getElem? (i := 25) rfl))) (Or.inr (hw _ (List.mem_of_getElem? (i := 29) rfl))) (by decide) (t := (.object "java/lang/String")) (t' := .long) (by decide) (by decide)))
  have f749 := F740.other W742 (Or.inr (slot_ne (Or.inr (hw _ (List.mem_of_getElem? (i := 27) rfl))) (Or.inr (hw _ (List.mem_of_getElem? (i := 29) rfl))) (by decide) (t := .boolean) (t' := .long) (by decide) (by decide)))
  have F750 := f737.same W742
  have N751 := Fr.snoc X742 N741 g1
  refine own_back st742 ?_
  show OwnGo p e below (T742.setTop (mkF m 19 #[.val (.ref a1), .val (.ref ak), .val (.int (1 : Int32)), .val (.long (0 : Int64)), .second, .val (.long (86400000 : Int64)), .second] [])) _
  refine own_back (fun t k => XS.aloadN X742.here hx rfl (hb hby pin_d19) rfl rfl k) ?_
  show OwnGo p e below (T742.setTop (mkF m 20 #[.val (.ref a1), .val (.ref ak), .val (.int (1 : Int32)), .val (.long (0 : Int64)), .second, .val (.long (86400000 : Int64)), .second] [(.ref a1)])) _
  refine own_back (fun t k => XS.lload X742.here hx rfl (hb hby pin_d20) rfl k) ?_
  show OwnGo p e below (T742.setTop (mkF m 22 #[.val (.ref a1), .val (.ref ak), .val (.int (1 : Int32)), .val (.long (0 : Int64)), .second, .val (.long (86400000 : Int64)), .second] [(.long (86400000 : Int64)), (.ref a1)])) _
  obtain ⟨T752, h752, X752, e752, W752, st752⟩ := putF X742 hx hZ hown (host := "") (Or.inl (hw _ (List.mem_of_getElem? (i := 30) rfl))) Via.refl e742 f747 f746 (Or.inr ⟨(hw _ (List.mem_of_getElem? (i := 31) rfl)), rfl, hnm⟩) (hw _ (List.mem_of_getElem? (i := 8) rfl)) (ty := .long) (by decide) rfl rfl (g := (mkF m 22 #[.val (.ref a1), .val (.ref ak), .val (.int (1 : Int32)), .val (.long (0 : Int64)), .second, .val (.long (86400000 : Int64)), .second] [(.long (86400000 : Int64)), (.ref a1)])) rfl rfl (hb hby pin_d22)
  have O753 := O743.wr W752 g1
  have KP754 := KP744.wr W752 (Or.inl (List.mem_of_getElem? (i := 0) rfl))
  have Zs755 := Nat.le_trans Zs745 (Keep.of_wr W752).1
  have f756 := f746.wr W752
  have f757 := f748.other W752 (Or.inr (slot_ne (Or.inr (hw _ (List.mem_of_getElem? (i := 25) rfl))) (Or.inr (hw _ (List.mem_of_getElem? (i := 31) rfl))) (by decide) (t := (.object "java/lang/String")) (t' := .long) (by decide) (by decide)))
  have f758 := f749.other W752 (Or.inr (slot_ne (Or.inr (hw _ (List.mem_of_getElem? (i := 27) rfl))) (Or.inr (hw _ (List.mem_of_getElem? (i := 31) rfl))) (by decide) (t := .boolean) (t' := .long) (by decide) (by decide)))
  have f759 := F750.other W752 (Or.inr (slot_ne (Or.inr (hw _ (List.mem_of_getElem? (i := 29) rfl))) (Or.inr (hw _ (List.mem_of_getElem? (i := 31) rfl))) (by decide) (t := .long) (t' := .long) (by decide) (by decide)))
  have F760 := f747.same W752
  have N761 := Fr.snoc X752 N751 g1
  refine own_back st752 ?_
  show OwnGo p e below (T752.setTop (mkF m 25 #[.val (.ref a1), .val (.ref ak), .val (.int (1 : Int32)), .val (.long (0 : Int64)), .second, .val (.long (86400000 : Int64)), .second] [])) _
  refine own_retV X752 hx Bd.notSynchronized Bd.returns (hb hby pin_d25) e752 (Nat.le_of_ble_eq_true rfl) (Nat.le_of_ble_eq_true rfl) ?_
  exact ⟨rfl, N761, KP754, f756, f757, f758, f759, F760⟩
theorem days_d0 : decode prog_5_method_4_code 0 = .ok (.new 8, 3) := by decide +kernel
theorem days_d3 : decode prog_5_method_4_code 3 = .ok (.dup, 1) := by decide +kernel
theorem days_d4 : decode prog_5_method_4_code 4 = .ok (.ldc 90, 2) := by decide +kernel
theorem days_d6 : decode prog_5_method_4_code 6 = .ok (.iconst 1, 1) := by decide +kernel
theorem days_d7 : decode prog_5_method_4_code 7 = .ok (.lconst 0, 1) := by decide +kernel
theorem days_d8 : decode prog_5_method_4_code 8 = .ok (.ldc2_w 56, 3) := by decide +kernel
theorem days_d11 : decode prog_5_method_4_code 11 = .ok (.invokespecial 87, 3) := by decide +kernel
theorem days_d14 : decode prog_5_method_4_code 14 = .ok (.areturn, 1) := by decide +kernel
theorem days_pn : plainName "com/example/sorted_set_patterns/sortedsetpatterns/Periods" = true := by first | (simp [plainName, overriddenIn]; done) | decide +kernel
theorem days_pd0 : parseMethodDescriptor "(Ljava/lang/String;ZJJ)V" = some ⟨[(.object "java/lang/String"), .boolean, .long, .long], none⟩ := by decide +kernel
theorem days_ef (m : MethodId)  : entryFrame m #[] 0 = mkF m 0 #[] [] := by first | (simp [entryFrame, mkF, argsToLocals, Value.category]; done) | rfl
set_option maxRecDepth 65536 in
set_option maxHeartbeats 40000000 in
theorem rm_days (l : Launch) (Z : State) (a0 : Array Value) (hw : ∀ d ∈ tables_1, d.before a0 Z = true) (ws : List Jvm.Cond)  (h0 : Heap) (n0 : Nat) (Z0 : n0 ≤ h0.size) (OL : Old Z n0 h0) :
    MetFree l (⟨"com/example/sorted_set_patterns/sortedsetpatterns/Periods", "days", "()Lcom/example/sorted_set_patterns/sortedsetpatterns/Periods;"⟩ : MethodName) (head1 (Jvm.Cond.code (⟨"com/example/sorted_set_patterns/sortedsetpatterns/Periods", "days", "()Lcom/example/sorted_set_patterns/sortedsetpatterns/Periods;"⟩ : MethodName) prog_5_method_4_code 0 (some (.object "com/example/sorted_set_patterns/sortedsetpatterns/Periods")) :: ws) ({ frames := 2, cells := 4, slots := 60, locals := 40 } : Room)) (fun a U => a = #[] ∧ Z.Warmed39 U.vm ∧ U.heap = h0 ∧ CHv Z own_EL U.vm h0 ∧ ∀ x ∈ ([] : List Addr), Safe Z own_EL U.vm h0 x) (fun _ _ _ _ _ => True) (fun _ U o U' => OwnEndW Z own_EL U (fun v h L => ∃ a ak, v = some (.ref a) ∧ Fr n0 L ∧ Ext h0 h ∧ OwnStr Z h ak [100, 97, 121] ∧ Exa Z h a "com/example/sorted_set_patterns/sortedsetpatterns/Periods" ∧ Fld Z h a "com/example/sorted_set_patterns/sortedsetpatterns/Periods" "kind" "Ljava/lang/String;" (.ref ak) ∧ Fld Z h a "com/example/sorted_set_patterns/sortedsetpatterns/Periods" "dated" "Z" (.int 1) ∧ Fld Z h a "com/example/sorted_set_patterns/sortedsetpatterns/Periods" "origin" "J" (.long 0) ∧ Fld Z h a "com/example/sorted_set_patterns/sortedsetpatterns/Periods" "length" "J" (.long 86400000)) ({ frames := 2, cells := 4, slots := 60, locals := 40 } : Room).cells ({ frames := 2, cells := 4, slots := 60, locals := 40 } : Room).slots o U') := by
  refine MetFree.of_bodySF (plainFor_of_name days_pn) hisR ?_
  intro p e s m args below meth c s₁ Bd hml0 hP hK
  obtain ⟨rfl, hZ, hh, hCH, hSL⟩ := hP
  have hx := Bd.exec
  have hby := Bd.bytes
  have hml : c.maxLocals = 0 := hml0
  have hown : s.vm.findClass "com/example/sorted_set_patterns/sortedsetpatterns/Periods" = some m.cls := findClass_of_methodNamed Bd.named
  have hnm := (name_of_methodNamed Bd.named Bd.method).1
  have X0 : Stand p l e ({ frames := 2, cells := 4, slots := 60, locals := 40 } : Room) (s.setVm s.vm) m #[] below meth c s₁ [] 0 0 := Stand.of_body Bd
  have e0 : s₁.heap = h0 := by rw [← hh, Bd.state]; rfl
  have N0 := Fr.nil n0
  have KP0 := Keep.refl h0 []
  have hown : (s.setVm s.vm).vm.findClass "com/example/sorted_set_patterns/sortedsetpatterns/Periods" = some m.cls := hown
  have hZ : Z.Warmed39 (s.setVm s.vm).vm := hZ
  have hS0 : s.Since s.vm 0 := (State.WarmedH.refl s).since 0
  have hk0 : 0 ≤ h0.size := Nat.zero_le _
  have CR0 : CHr Z own_EL s.vm h0 s.vm h0 := CHr.refl hCH
  have hEL := own_EW hw
  refine own_go (Q := (OwnEndW Z own_EL s (fun v h L => ∃ a ak, v = some (.ref a) ∧ Fr n0 L ∧ Ext h0 h ∧ OwnStr Z h ak [100, 97, 121] ∧ Exa Z h a "com/example/sorted_set_patterns/sortedsetpatterns/Periods" ∧ Fld Z h a "com/example/sorted_set_patterns/sortedsetpatterns/Periods" "kind" "Ljava/lang/String;" (.ref ak) ∧ Fld Z h a "com/example/sorted_set_patterns/sortedsetpatterns/Periods" "dated" "Z" (.int 1) ∧ Fld Z h a "com/example/sorted_set_patterns/sortedsetpatterns/Periods" "origin" "J" (.long 0) ∧ Fld Z h a "com/example/sorted_set_patterns/sortedsetpatterns/Periods" "length" "J" (.long 86400000)) ({ frames := 2, cells := 4, slots := 60, locals := 40 } : Room).cells ({ frames := 2, cells := 4, slots := 60, locals := 40 } : Room).slots)) ?_
  refine own_back (fun t k => castTop (days_ef m ) k) ?_
  show OwnGo p e below (s₁.setTop (mkF m 0 #[] [])) _
  obtain ⟨T762, h762, X762, e762, E762, A762, D762, -, st762⟩ := newO X0 hx hZ hown (hw _ (List.mem_of_getElem? (i := 7) rfl)) (hw _ (List.mem_of_getElem? (i := 8) rfl)) (hw _ (List.mem_of_getElem? (i := 5) rfl)) e0 (g := (mkF m 0 #[] [])) rfl (hb hby days_d0) (Nat.le_of_ble_eq_true rfl) (Nat.le_of_ble_eq_true rfl)
  obtain ⟨b762, g762⟩ : ∃ z, z = h0.size := ⟨_, rfl⟩
  have ge763 : n0 ≤ b762 := Nat.le_trans Z0 (Nat.le_of_eq g762.symm)
  have sz764 : h0.size ≤ b762 := Nat.le_trans KP0.1 (Nat.le_of_eq g762.symm)
  rw [← g762] at A762 D762 st762
  have O765 := OL.ext E762
  have KP766 := KP0.ext E762
  have Zs767 := Nat.le_trans Z0 E762.1
  have CR768 := CR0.trans (CHr.ext E762 CR0.1)
  have hk769 := Nat.le_trans hk0 E762.1
  have F770 : Fld Z h762 b762 "com/example/sorted_set_patterns/sortedsetpatterns/Periods" "kind" "Ljava/lang/String;" .null := D762 (Or.inr (hw _ (List.mem_of_getElem? (i := 25) rfl))) (ty := (.object "java/lang/String")) (by decide)
  have F771 : Fld Z h762 b762 "com/example/sorted_set_patterns/sortedsetpatterns/Periods" "dated" "Z" (.int (0 : Int32)) := D762 (Or.inr (hw _ (List.mem_of_getElem? (i := 27) rfl))) (ty := .boolean) (by decide)
  have F772 : Fld Z h762 b762 "com/example/sorted_set_patterns/sortedsetpatterns/Periods" "origin" "J" (.long (0 : Int64)) := D762 (Or.inr (hw _ (List.mem_of_getElem? (i := 29) rfl))) (ty := .long) (by decide)
  have F773 : Fld Z h762 b762 "com/example/sorted_set_patterns/sortedsetpatterns/Periods" "length" "J" (.long (0 : Int64)) := D762 (Or.inr (hw _ (List.mem_of_getElem? (i := 31) rfl))) (ty := .long) (by decide)
  have sf774 := Safe.ext E762 CR0.1 (Safe.new (Nat.le_of_eq g762.symm))
  refine own_back st762 ?_
  show OwnGo p e below (T762.setTop (mkF m 3 #[] [(.ref b762)])) _
  refine own_back (fun t k => XS.dup X762.here hx rfl (hb hby days_d3) rfl rfl k) ?_
  show OwnGo p e below (T762.setTop (mkF m 4 #[] [(.ref b762), (.ref b762)])) _
  obtain ⟨a775, T775, h775, k1775, t775, kb775, X775, e775, E775, hS775, hk775, hZ775, hown775, EX775, FC775, FV775, AV775, la775, lb775, CRl775, hLit775, sx775, st775⟩ := ldcCH X762 hx hZ hown (hw _ (List.mem_of_getElem? (i := 9) rfl)) (own_wS hw) e762 hS0 hk769 hEL (List.mem_of_getElem? (i := 0) rfl) CR768.1 (vs := [(.int 100), (.int 97), (.int 121)]) (z := 3) ⟨by decide, by decide⟩ (by decide) (by decide) (g := (mkF m 4 #[] [(.ref b762), (.ref b762)])) rfl (hb hby days_d4) (n := 12) (Nat.le_of_ble_eq_true rfl) (by decide) (Nat.le_of_ble_eq_true rfl) (Nat.le_of_ble_eq_true rfl)
  have O776 := O765.ext E775
  have KP777 := KP766.ext E775
  have Zs778 := Nat.le_trans Zs767 E775.1
  have CR779 := CR768.trans CRl775
  have f780 := A762.ext E775
  have f781 := F770.ext E775
  have f782 := F771.ext E775
  have f783 := F772.ext E775
  have f784 := F773.ext E775
  have f785 := (CRl775.safe A762.lt sf774)
  refine own_back st775 ?_
  show OwnGo p e below (T775.setTop (mkF m 6 #[] [(.ref a775), (.ref b762), (.ref b762)])) _
  refine own_back (fun t k => XS.iconst X775.here hx rfl (hb hby days_d6) k) ?_
  show OwnGo p e below (T775.setTop (mkF m 7 #[] [(.int (1 : Int32)), (.ref a775), (.ref b762), (.ref b762)])) _
  refine own_back (fun t k => XS.lconst X775.here hx rfl (hb hby days_d7) k) ?_
  show OwnGo p e below (T775.setTop (mkF m 8 #[] [(.long (0 : Int64)), (.int (1 : Int32)), (.ref a775), (.ref b762), (.ref b762)])) _
  refine own_back (fun t k => X775.ldc2Long hx hown775 (mvT hZ775 (hw _ (List.mem_of_getElem? (i := 17) rfl))) (g := (mkF m 8 #[] [(.long (0 : Int64)), (.int (1 : Int32)), (.ref a775), (.ref b762), (.ref b762)])) rfl (hb hby days_d8) t k) ?_
  show OwnGo p e below (T775.setTop (mkF m 11 #[] [(.long (86400000 : Int64)), (.long (0 : Int64)), (.int (1 : Int32)), (.ref a775), (.ref b762), (.ref b762)])) _
  obtain ⟨_, _, ⟨T786, L786, k786, n786⟩, -, X786, ⟨Lc786, hQ786, l786, y786, z786⟩, st786⟩ := X775.specialBack hx (y := (⟨"com/example/sorted_set_patterns/sortedsetpatterns/Periods", "<init>", "(Ljava/lang/String;ZJJ)V"⟩ : MethodName)) rfl hown775 (mvT hZ775 (hw _ (List.mem_of_getElem? (i := 18) rfl))) (mvT hZ775 (hw _ (List.mem_of_getElem? (i := 19) rfl))) (mvT hZ775 (hw _ (List.mem_of_getElem? (i := 20) rfl))) (by decide) (own_backN (W := 1) (rm_pin l Z a0 hw [] b762 a775 h775 n0 Zs778 O776 f780 f781 f782 f783 f784 ge763) hZ775 (hw _ (List.mem_of_getElem? (i := 20) rfl)) (hw _ (List.mem_of_getElem? (i := 5) rfl)) (by decide) (by decide)) (g := (mkF m 11 #[] [(.long (86400000 : Int64)), (.long (0 : Int64)), (.int (1 : Int32)), (.ref a775), (.ref b762), (.ref b762)])) rfl (by rw [hml]; rfl) (Steps.refl _) (a := b762) (argsL := [(.ref a775), (.int (1 : Int32)), (.long (0 : Int64)), (.long (86400000 : Int64))]) (rest := [(.ref b762)]) (lenOf days_pd0 rfl) rfl (by show 2 * 0 + _ ≤ _; exact Nat.le_of_eq rfl) (hb hby days_d11) (fun _ _ => ⟨rfl, e775, Nat.le_of_ble_eq_true rfl, Nat.le_of_ble_eq_true rfl⟩)
  dsimp only [Pt.U, Pt.locs, Pt.cells, Pt.slots] at X786 l786 y786 z786 st786 hQ786
  subst l786 y786 z786
  obtain ⟨rfl, N786q, K786, Q786⟩ := hQ786
  refine own_seq st786 ?_
  have N786 := Fr.app N0 N786q
  have O787 := O776.keep K786 (allS ge763 all0)
  have KP788 := KP777.trans K786 (allS (Or.inr sz764) all0)
  have Zs789 := Nat.le_trans Zs778 K786.1
  have CR790 := CR779.trans (CHr.keep K786 (sfS f785 sf0) CR779.1)
  have hk791 := Nat.le_trans hk775 K786.1
  have f792 := f780.keep K786
  have f793 := (Safe.keep K786 (sfS f785 sf0) CR779.1 f785)
  have f794 := EX775.keep K786
  have f795 := FC775.keep K786 (ninS (Ne.symm (sx775 b762 f785).1) nin0)
  have f796 := FV775.keep K786 (ninS (Ne.symm (sx775 b762 f785).1) nin0)
  have f797 := AV775.keep K786 (ninS (Ne.symm (sx775 b762 f785).2) nin0)
  have LS798 : OwnStr Z T786.heap a775 [100, 97, 121] := ⟨t775, _, f794, f795, f796, f797, Nat.le_of_ble_eq_true rfl⟩
  show OwnGo p e below (T786.setTop (mkF m 14 #[] [(.ref b762)])) _
  refine own_retAW X786 hx Bd.notSynchronized Bd.returns rfl rfl hS775 hk791 hZ775 hEL (hh ▸ CR790) (hb hby days_d14) rfl (Nat.le_of_ble_eq_true rfl) (Nat.le_of_ble_eq_true rfl) ?_
  exact ⟨_, _, rfl, N786, own_ext KP788, LS798, Q786⟩
theorem num_d0 : decode prog_5_method_5_code 0 = .ok (.lload_n 1, 1) := by decide +kernel
theorem num_d1 : decode prog_5_method_5_code 1 = .ok (.aload_n 0, 1) := by decide +kernel
theorem num_d2 : decode prog_5_method_5_code 2 = .ok (.getfield 17, 3) := by decide +kernel
theorem num_d5 : decode prog_5_method_5_code 5 = .ok (.lcmp, 1) := by decide +kernel
theorem num_d6 : decode prog_5_method_5_code 6 = .ok (.ifCond .lt 11, 3) := by decide +kernel
theorem num_d9 : decode prog_5_method_5_code 9 = .ok (.lload_n 1, 1) := by decide +kernel
theorem num_d10 : decode prog_5_method_5_code 10 = .ok (.ldc2_w 58, 3) := by decide +kernel
theorem num_d13 : decode prog_5_method_5_code 13 = .ok (.lcmp, 1) := by decide +kernel
theorem num_d14 : decode prog_5_method_5_code 14 = .ok (.ifCond .lt 21, 3) := by decide +kernel
theorem num_d35 : decode prog_5_method_5_code 35 = .ok (.lload_n 1, 1) := by decide +kernel
theorem num_d36 : decode prog_5_method_5_code 36 = .ok (.aload_n 0, 1) := by decide +kernel
theorem num_d37 : decode prog_5_method_5_code 37 = .ok (.getfield 17, 3) := by decide +kernel
theorem num_d40 : decode prog_5_method_5_code 40 = .ok (.lsub, 1) := by decide +kernel
theorem num_d41 : decode prog_5_method_5_code 41 = .ok (.aload_n 0, 1) := by decide +kernel
theorem num_d42 : decode prog_5_method_5_code 42 = .ok (.getfield 21, 3) := by decide +kernel
theorem num_d45 : decode prog_5_method_5_code 45 = .ok (.ldiv, 1) := by decide +kernel
theorem num_d46 : decode prog_5_method_5_code 46 = .ok (.lreturn, 1) := by decide +kernel
theorem num_pn : plainName "com/example/sorted_set_patterns/sortedsetpatterns/Periods" = true := by first | (simp [plainName, overriddenIn]; done) | decide +kernel
theorem num_ef (m : MethodId) (x0 : Addr) (x1 : Int64) : entryFrame m #[(.ref x0), (.long x1)] 3 = mkF m 0 #[.val (.ref x0), .val (.long x1), .second] [] := by first | (simp [entryFrame, mkF, argsToLocals, Value.category]; done) | rfl
set_option maxRecDepth 65536 in
set_option maxHeartbeats 40000000 in
theorem rm_num (l : Launch) (Z : State) (a0 : Array Value) (hw : ∀ d ∈ tables_1, d.before a0 Z = true) (ws : List Jvm.Cond) (a1 : Addr) (x1 : Int64) (h0 : Heap) (n0 : Nat) (Z0 : n0 ≤ h0.size) (G2 : Fld Z h0 a1 "com/example/sorted_set_patterns/sortedsetpatterns/Periods" "origin" "J" (.long 0)) (G3 : Fld Z h0 a1 "com/example/sorted_set_patterns/sortedsetpatterns/Periods" "length" "J" (.long 86400000)) (hx0 : ¬ x1 < 0) (hx1 : x1 < 253402300800000) :
    MetFree l (⟨"com/example/sorted_set_patterns/sortedsetpatterns/Periods", "number", "(J)J"⟩ : MethodName) (head1 (Jvm.Cond.code (⟨"com/example/sorted_set_patterns/sortedsetpatterns/Periods", "number", "(J)J"⟩ : MethodName) prog_5_method_5_code 3 (some .long) :: ws) ({ frames := 0, cells := 0, slots := 0, locals := 0 } : Room)) (fun a U => a = #[(.ref a1), (.long x1)] ∧ Z.Warmed39 U.vm ∧ U.heap = h0) (fun _ _ _ _ _ => True) (fun _ U o U' => OwnEnd U (fun v h L => v = some (.long (x1 / 86400000)) ∧ Fr n0 L ∧ h = h0) ({ frames := 0, cells := 0, slots := 0, locals := 0 } : Room).cells ({ frames := 0, cells := 0, slots := 0, locals := 0 } : Room).slots o U') := by
  refine MetFree.of_bodySF (plainFor_of_name num_pn) hisR ?_
  intro p e s m args below meth c s₁ Bd hml0 hP hK
  obtain ⟨rfl, hZ, hh⟩ := hP
  have hx := Bd.exec
  have hby := Bd.bytes
  have hml : c.maxLocals = 3 := hml0
  have hown : s.vm.findClass "com/example/sorted_set_patterns/sortedsetpatterns/Periods" = some m.cls := findClass_of_methodNamed Bd.named
  have hnm := (name_of_methodNamed Bd.named Bd.method).1
  have X0 : Stand p l e ({ frames := 0, cells := 0, slots := 0, locals := 0 } : Room) s m #[(.ref a1), (.long x1)] below meth c s₁ [] 0 0 := Stand.of_body Bd
  have e0 : s₁.heap = h0 := by rw [← hh, Bd.state]; rfl
  have N0 := Fr.nil n0
  have KP0 := Keep.refl h0 []
  refine own_go (Q := (OwnEnd s (fun v h L => v = some (.long (x1 / 86400000)) ∧ Fr n0 L ∧ h = h0) ({ frames := 0, cells := 0, slots := 0, locals := 0 } : Room).cells ({ frames := 0, cells := 0, slots := 0, locals := 0 } : Room).slots)) ?_
  refine own_back (fun t k => castTop (num_ef m a1 x1) k) ?_
  show OwnGo p e below (s₁.setTop (mkF m 0 #[.val (.ref a1), .val (.long x1), .second] [])) _
  refine own_back (fun t k => XS.lloadN X0.here hx rfl (hb hby num_d0) rfl k) ?_
  show OwnGo p e below (s₁.setTop (mkF m 1 #[.val (.ref a1), .val (.long x1), .second] [(.long x1)])) _
  refine own_back (fun t k => XS.aloadN X0.here hx rfl (hb hby num_d1) rfl rfl k) ?_
  show OwnGo p e below (s₁.setTop (mkF m 2 #[.val (.ref a1), .val (.long x1), .second] [(.ref a1), (.long x1)])) _
  obtain ⟨T799, X799, e799, st799⟩ := getF X0 hx hZ hown (host := "") (Or.inl (hw _ (List.mem_of_getElem? (i := 28) rfl))) Via.refl e0 G2 (g := (mkF m 2 #[.val (.ref a1), .val (.long x1), .second] [(.ref a1), (.long x1)])) rfl rfl (hb hby num_d2)
  refine own_back st799 ?_
  show OwnGo p e below (T799.setTop (mkF m 5 #[.val (.ref a1), .val (.long x1), .second] [(.long (0 : Int64)), (.long x1)])) _
  refine own_back (fun t k => XT.lcmp X799.here hx rfl (hb hby num_d5) rfl k) ?_
  show OwnGo p e below (T799.setTop (mkF m 6 #[.val (.ref a1), .val (.long x1), .second] [(.int (XT.cmpL x1 (0 : Int64)))])) _
  refine own_back (fun t k => XS.ifNo X799.here hx rfl (hb hby num_d6) rfl (Jvm.Free.XT.ll_lt_f hx0) k) ?_
  show OwnGo p e below (T799.setTop (mkF m 9 #[.val (.ref a1), .val (.long x1), .second] [])) _
  refine own_back (fun t k => XS.lloadN X799.here hx rfl (hb hby num_d9) rfl k) ?_
  show OwnGo p e below (T799.setTop (mkF m 10 #[.val (.ref a1), .val (.long x1), .second] [(.long x1)])) _
  refine own_back (fun t k => X799.ldc2Long hx hown (mvT hZ (hw _ (List.mem_of_getElem? (i := 37) rfl))) (g := (mkF m 10 #[.val (.ref a1), .val (.long x1), .second] [(.long x1)])) rfl (hb hby num_d10) t k) ?_
  show OwnGo p e below (T799.setTop (mkF m 13 #[.val (.ref a1), .val (.long x1), .second] [(.long (253402300800000 : Int64)), (.long x1)])) _
  refine own_back (fun t k => XT.lcmp X799.here hx rfl (hb hby num_d13) rfl k) ?_
  show OwnGo p e below (T799.setTop (mkF m 14 #[.val (.ref a1), .val (.long x1), .second] [(.int (XT.cmpL x1 (253402300800000 : Int64)))])) _
  refine own_back (fun t k => XS.ifYes X799.here hx rfl (pc0 := 14) (pc' := 35) rfl (hb hby num_d14) rfl (Jvm.Free.XT.ll_lt_t hx1) (by decide) (by decide) k) ?_
  show OwnGo p e below (T799.setTop (mkF m 35 #[.val (.ref a1), .val (.long x1), .second] [])) _
  refine own_back (fun t k => XS.lloadN X799.here hx rfl (hb hby num_d35) rfl k) ?_
  show OwnGo p e below (T799.setTop (mkF m 36 #[.val (.ref a1), .val (.long x1), .second] [(.long x1)])) _
  refine own_back (fun t k => XS.aloadN X799.here hx rfl (hb hby num_d36) rfl rfl k) ?_
  show OwnGo p e below (T799.setTop (mkF m 37 #[.val (.ref a1), .val (.long x1), .second] [(.ref a1), (.long x1)])) _
  obtain ⟨T800, X800, e800, st800⟩ := getF X799 hx hZ hown (host := "") (Or.inl (hw _ (List.mem_of_getElem? (i := 28) rfl))) Via.refl e799 G2 (g := (mkF m 37 #[.val (.ref a1), .val (.long x1), .second] [(.ref a1), (.long x1)])) rfl rfl (hb hby num_d37)
  refine own_back st800 ?_
  show OwnGo p e below (T800.setTop (mkF m 40 #[.val (.ref a1), .val (.long x1), .second] [(.long (0 : Int64)), (.long x1)])) _
  refine own_back (fun t k => XS.lsub X800.here hx rfl (hb hby num_d40) rfl k) ?_
  show OwnGo p e below (T800.setTop (mkF m 41 #[.val (.ref a1), .val (.long x1), .second] [(.long (x1 - (0 : Int64)))])) _
  refine own_back (fun t k => XS.aloadN X800.here hx rfl (hb hby num_d41) rfl rfl k) ?_
  show OwnGo p e below (T800.setTop (mkF m 42 #[.val (.ref a1), .val (.long x1), .second] [(.ref a1), (.long (x1 - (0 : Int64)))])) _
  obtain ⟨T801, X801, e801, st801⟩ := getF X800 hx hZ hown (host := "") (Or.inl (hw _ (List.mem_of_getElem? (i := 30) rfl))) Via.refl e800 G3 (g := (mkF m 42 #[.val (.ref a1), .val (.long x1), .second] [(.ref a1), (.long (x1 - (0 : Int64)))])) rfl rfl (hb hby num_d42)
  refine own_back st801 ?_
  show OwnGo p e below (T801.setTop (mkF m 45 #[.val (.ref a1), .val (.long x1), .second] [(.long (86400000 : Int64)), (.long (x1 - (0 : Int64)))])) _
  refine own_back (fun t k => XS.ldiv X801.here hx rfl (hb hby num_d45) rfl (by decide) k) ?_
  show OwnGo p e below (T801.setTop (mkF m 46 #[.val (.ref a1), .val (.long x1), .second] [(.long ((x1 - (0 : Int64)) / (86400000 : Int64)))])) _
  refine own_retJ X801 hx Bd.notSynchronized Bd.returns (hb hby num_d46) e801 (Nat.le_of_ble_eq_true rfl) (Nat.le_of_ble_eq_true rfl) ?_
  exact ⟨congrArg (fun z => some (Value.long z)) (own_num _ _), N0, rfl⟩
theorem pend_d0 : decode prog_5_method_6_code 0 = .ok (.aload_n 0, 1) := by decide +kernel
theorem pend_d1 : decode prog_5_method_6_code 1 = .ok (.getfield 17, 3) := by decide +kernel
theorem pend_d4 : decode prog_5_method_6_code 4 = .ok (.lload_n 1, 1) := by decide +kernel
theorem pend_d5 : decode prog_5_method_6_code 5 = .ok (.lconst 1, 1) := by decide +kernel
theorem pend_d6 : decode prog_5_method_6_code 6 = .ok (.ladd, 1) := by decide +kernel
theorem pend_d7 : decode prog_5_method_6_code 7 = .ok (.aload_n 0, 1) := by decide +kernel
theorem pend_d8 : decode prog_5_method_6_code 8 = .ok (.getfield 21, 3) := by decide +kernel
theorem pend_d11 : decode prog_5_method_6_code 11 = .ok (.lmul, 1) := by decide +kernel
theorem pend_d12 : decode prog_5_method_6_code 12 = .ok (.ladd, 1) := by decide +kernel
theorem pend_d13 : decode prog_5_method_6_code 13 = .ok (.lreturn, 1) := by decide +kernel
theorem pend_pn : plainName "com/example/sorted_set_patterns/sortedsetpatterns/Periods" = true := by first | (simp [plainName, overriddenIn]; done) | decide +kernel
theorem pend_ef (m : MethodId) (x0 : Addr) (x1 : Int64) : entryFrame m #[(.ref x0), (.long x1)] 3 = mkF m 0 #[.val (.ref x0), .val (.long x1), .second] [] := by first | (simp [entryFrame, mkF, argsToLocals, Value.category]; done) | rfl
set_option maxRecDepth 65536 in
set_option maxHeartbeats 40000000 in
theorem rm_pend (l : Launch) (Z : State) (a0 : Array Value) (hw : ∀ d ∈ tables_1, d.before a0 Z = true) (ws : List Jvm.Cond) (a1 : Addr) (x1 : Int64) (h0 : Heap) (n0 : Nat) (Z0 : n0 ≤ h0.size) (G2 : Fld Z h0 a1 "com/example/sorted_set_patterns/sortedsetpatterns/Periods" "origin" "J" (.long 0)) (G3 : Fld Z h0 a1 "com/example/sorted_set_patterns/sortedsetpatterns/Periods" "length" "J" (.long 86400000)) :
    MetFree l (⟨"com/example/sorted_set_patterns/sortedsetpatterns/Periods", "end", "(J)J"⟩ : MethodName) (head1 (Jvm.Cond.code (⟨"com/example/sorted_set_patterns/sortedsetpatterns/Periods", "end", "(J)J"⟩ : MethodName) prog_5_method_6_code 3 (some .long) :: ws) ({ frames := 0, cells := 0, slots := 0, locals := 0 } : Room)) (fun a U => a = #[(.ref a1), (.long x1)] ∧ Z.Warmed39 U.vm ∧ U.heap = h0) (fun _ _ _ _ _ => True) (fun _ U o U' => OwnEnd U (fun v h L => v = some (.long ((x1 * 86400000) + 86400000)) ∧ Fr n0 L ∧ h = h0) ({ frames := 0, cells := 0, slots := 0, locals := 0 } : Room).cells ({ frames := 0, cells := 0, slots := 0, locals := 0 } : Room).slots o U') := by
  refine MetFree.of_bodySF (plainFor_of_name pend_pn) hisR ?_
  intro p e s m args below meth c s₁ Bd hml0 hP hK
  obtain ⟨rfl, hZ, hh⟩ := hP
  have hx := Bd.exec
  have hby := Bd.bytes
  have hml : c.maxLocals = 3 := hml0
  have hown : s.vm.findClass "com/example/sorted_set_patterns/sortedsetpatterns/Periods" = some m.cls := findClass_of_methodNamed Bd.named
  have hnm := (name_of_methodNamed Bd.named Bd.method).1
  have X0 : Stand p l e ({ frames := 0, cells := 0, slots := 0, locals := 0 } : Room) s m #[(.ref a1), (.long x1)] below meth c s₁ [] 0 0 := Stand.of_body Bd
  have e0 : s₁.heap = h0 := by rw [← hh, Bd.state]; rfl
  have N0 := Fr.nil n0
  have KP0 := Keep.refl h0 []
  refine own_go (Q := (OwnEnd s (fun v h L => v = some (.long ((x1 * 86400000) + 86400000)) ∧ Fr n0 L ∧ h = h0) ({ frames := 0, cells := 0, slots := 0, locals := 0 } : Room).cells ({ frames := 0, cells := 0, slots := 0, locals := 0 } : Room).slots)) ?_
  refine own_back (fun t k => castTop (pend_ef m a1 x1) k) ?_
  show OwnGo p e below (s₁.setTop (mkF m 0 #[.val (.ref a1), .val (.long x1), .second] [])) _
  refine own_back (fun t k => XS.aloadN X0.here hx rfl (hb hby pend_d0) rfl rfl k) ?_
  show OwnGo p e below (s₁.setTop (mkF m 1 #[.val (.ref a1), .val (.long x1), .second] [(.ref a1)])) _
  obtain ⟨T802, X802, e802, st802⟩ := getF X0 hx hZ hown (host := "") (Or.inl (hw _ (List.mem_of_getElem? (i := 28) rfl))) Via.refl e0 G2 (g := (mkF m 1 #[.val (.ref a1), .val (.long x1), .second] [(.ref a1)])) rfl rfl (hb hby pend_d1)
  refine own_back st802 ?_
  show OwnGo p e below (T802.setTop (mkF m 4 #[.val (.ref a1), .val (.long x1), .second] [(.long (0 : Int64))])) _
  refine own_back (fun t k => XS.lloadN X802.here hx rfl (hb hby pend_d4) rfl k) ?_
  show OwnGo p e below (T802.setTop (mkF m 5 #[.val (.ref a1), .val (.long x1), .second] [(.long x1), (.long (0 : Int64))])) _
  refine own_back (fun t k => XS.lconst X802.here hx rfl (hb hby pend_d5) k) ?_
  show OwnGo p e below (T802.setTop (mkF m 6 #[.val (.ref a1), .val (.long x1), .second] [(.long (1 : Int64)), (.long x1), (.long (0 : Int64))])) _
  refine own_back (fun t k => XS.ladd X802.here hx rfl (hb hby pend_d6) rfl k) ?_
  show OwnGo p e below (T802.setTop (mkF m 7 #[.val (.ref a1), .val (.long x1), .second] [(.long (x1 + (1 : Int64))), (.long (0 : Int64))])) _
  refine own_back (fun t k => XS.aloadN X802.here hx rfl (hb hby pend_d7) rfl rfl k) ?_
  show OwnGo p e below (T802.setTop (mkF m 8 #[.val (.ref a1), .val (.long x1), .second] [(.ref a1), (.long (x1 + (1 : Int64))), (.long (0 : Int64))])) _
  obtain ⟨T803, X803, e803, st803⟩ := getF X802 hx hZ hown (host := "") (Or.inl (hw _ (List.mem_of_getElem? (i := 30) rfl))) Via.refl e802 G3 (g := (mkF m 8 #[.val (.ref a1), .val (.long x1), .second] [(.ref a1), (.long (x1 + (1 : Int64))), (.long (0 : Int64))])) rfl rfl (hb hby pend_d8)
  refine own_back st803 ?_
  show OwnGo p e below (T803.setTop (mkF m 11 #[.val (.ref a1), .val (.long x1), .second] [(.long (86400000 : Int64)), (.long (x1 + (1 : Int64))), (.long (0 : Int64))])) _
  refine own_back (fun t k => XS.lmul X803.here hx rfl (hb hby pend_d11) rfl k) ?_
  show OwnGo p e below (T803.setTop (mkF m 12 #[.val (.ref a1), .val (.long x1), .second] [(.long ((x1 + (1 : Int64)) * (86400000 : Int64))), (.long (0 : Int64))])) _
  refine own_back (fun t k => XS.ladd X803.here hx rfl (hb hby pend_d12) rfl k) ?_
  show OwnGo p e below (T803.setTop (mkF m 13 #[.val (.ref a1), .val (.long x1), .second] [(.long ((0 : Int64) + ((x1 + (1 : Int64)) * (86400000 : Int64))))])) _
  refine own_retJ X803 hx Bd.notSynchronized Bd.returns (hb hby pend_d13) e803 (Nat.le_of_ble_eq_true rfl) (Nat.le_of_ble_eq_true rfl) ?_
  exact ⟨congrArg (fun z => some (Value.long z)) (own_pend _ _), N0, rfl⟩
theorem pts_d0 : decode prog_5_method_10_code 0 = .ok (.aload_n 0, 1) := by decide +kernel
theorem pts_d1 : decode prog_5_method_10_code 1 = .ok (.getfield 13, 3) := by decide +kernel
theorem pts_d4 : decode prog_5_method_10_code 4 = .ok (.ifCond .eq 8, 3) := by decide +kernel
theorem pts_d7 : decode prog_5_method_10_code 7 = .ok (.ldc 125, 2) := by decide +kernel
theorem pts_d9 : decode prog_5_method_10_code 9 = .ok (.goto 32, 3) := by decide +kernel
theorem pts_d41 : decode prog_5_method_10_code 41 = .ok (.areturn, 1) := by decide +kernel
theorem pts_pn : plainName "com/example/sorted_set_patterns/sortedsetpatterns/Periods" = true := by first | (simp [plainName, overriddenIn]; done) | decide +kernel
theorem pts_ef (m : MethodId) (x0 : Addr) : entryFrame m #[(.ref x0)] 1 = mkF m 0 #[.val (.ref x0)] [] := by first | (simp [entryFrame, mkF, argsToLocals, Value.category]; done) | rfl
set_option maxRecDepth 65536 in
set_option maxHeartbeats 40000000 in
theorem rm_pts (l : Launch) (Z : State) (a0 : Array Value) (hw : ∀ d ∈ tables_1, d.before a0 Z = true) (ws : List Jvm.Cond) (a1 : Addr) (h0 : Heap) (n0 : Nat) (Z0 : n0 ≤ h0.size) (OL : Old Z n0 h0) (E1 : Exa Z h0 a1 "com/example/sorted_set_patterns/sortedsetpatterns/Periods") (D1 : Fld Z h0 a1 "com/example/sorted_set_patterns/sortedsetpatterns/Periods" "dated" "Z" (.int 1)) :
    MetFree l (⟨"com/example/sorted_set_patterns/sortedsetpatterns/Periods", "toString", "()Ljava/lang/String;"⟩ : MethodName) (head1 (Jvm.Cond.code (⟨"com/example/sorted_set_patterns/sortedsetpatterns/Periods", "toString", "()Ljava/lang/String;"⟩ : MethodName) prog_5_method_10_code 1 (some (.object "java/lang/String")) :: ws) ({ frames := 0, cells := 2, slots := 40, locals := 0 } : Room)) (fun a U => a = #[(.ref a1)] ∧ Z.Warmed39 U.vm ∧ U.heap = h0 ∧ CHv Z own_EL U.vm h0 ∧ ∀ x ∈ ([] : List Addr), Safe Z own_EL U.vm h0 x) (fun _ _ _ _ _ => True) (fun _ U o U' => OwnEndW Z own_EL U (fun v h L => ∃ a, v = some (.ref a) ∧ Fr n0 L ∧ Ext h0 h ∧ OwnStr Z h a [100, 97, 121, 115]) ({ frames := 0, cells := 2, slots := 40, locals := 0 } : Room).cells ({ frames := 0, cells := 2, slots := 40, locals := 0 } : Room).slots o U') := by
  refine MetFree.of_bodySF (plainFor_of_name pts_pn) hisR ?_
  intro p e s m args below meth c s₁ Bd hml0 hP hK
  obtain ⟨rfl, hZ, hh, hCH, hSL⟩ := hP
  have hx := Bd.exec
  have hby := Bd.bytes
  have hml : c.maxLocals = 1 := hml0
  have hown : s.vm.findClass "com/example/sorted_set_patterns/sortedsetpatterns/Periods" = some m.cls := findClass_of_methodNamed Bd.named
  have hnm := (name_of_methodNamed Bd.named Bd.method).1
  have X0 : Stand p l e ({ frames := 0, cells := 2, slots := 40, locals := 0 } : Room) (s.setVm s.vm) m #[(.ref a1)] below meth c s₁ [] 0 0 := Stand.of_body Bd
  have e0 : s₁.heap = h0 := by rw [← hh, Bd.state]; rfl
  have N0 := Fr.nil n0
  have KP0 := Keep.refl h0 []
  have hown : (s.setVm s.vm).vm.findClass "com/example/sorted_set_patterns/sortedsetpatterns/Periods" = some m.cls := hown
  have hZ : Z.Warmed39 (s.setVm s.vm).vm := hZ
  have hS0 : s.Since s.vm 0 := (State.WarmedH.refl s).since 0
  have hk0 : 0 ≤ h0.size := Nat.zero_le _
  have CR0 : CHr Z own_EL s.vm h0 s.vm h0 := CHr.refl hCH
  have hEL := own_EW hw
  refine own_go (Q := (OwnEndW Z own_EL s (fun v h L => ∃ a, v = some (.ref a) ∧ Fr n0 L ∧ Ext h0 h ∧ OwnStr Z h a [100, 97, 121, 115]) ({ frames := 0, cells := 2, slots := 40, locals := 0 } : Room).cells ({ frames := 0, cells := 2, slots := 40, locals := 0 } : Room).slots)) ?_
  refine own_back (fun t k => castTop (pts_ef m a1) k) ?_
  show OwnGo p e below (s₁.setTop (mkF m 0 #[.val (.ref a1)] [])) _
  refine own_back (fun t k => XS.aloadN X0.here hx rfl (hb hby pts_d0) rfl rfl k) ?_
  show OwnGo p e below (s₁.setTop (mkF m 1 #[.val (.ref a1)] [(.ref a1)])) _
  obtain ⟨T804, X804, e804, st804⟩ := getF X0 hx hZ hown (host := "") (Or.inl (hw _ (List.mem_of_getElem? (i := 26) rfl))) Via.refl e0 D1 (g := (mkF m 1 #[.val (.ref a1)] [(.ref a1)])) rfl rfl (hb hby pts_d1)
  refine own_back st804 ?_
  show OwnGo p e below (T804.setTop (mkF m 4 #[.val (.ref a1)] [(.int (1 : Int32))])) _
  refine own_back (fun t k => XS.ifNo X804.here hx rfl (hb hby pts_d4) rfl (Jvm.Free.XT.i0_eq_f (by decide)) k) ?_
  show OwnGo p e below (T804.setTop (mkF m 7 #[.val (.ref a1)] [])) _
  obtain ⟨a805, T805, h805, k1805, t805, kb805, X805, e805, E805, hS805, hk805, hZ805, hown805, EX805, FC805, FV805, AV805, la805, lb805, CRl805, hLit805, sx805, st805⟩ := ldcCH X804 hx hZ hown (hw _ (List.mem_of_getElem? (i := 49) rfl)) (own_wS hw) e804 hS0 hk0 hEL (List.mem_of_getElem? (i := 2) rfl) CR0.1 (vs := [(.int 100), (.int 97), (.int 121), (.int 115)]) (z := 4) ⟨by decide, by decide⟩ (by decide) (by decide) (g := (mkF m 7 #[.val (.ref a1)] [])) rfl (hb hby pts_d7) (n := 16) (Nat.le_of_ble_eq_true rfl) (by decide) (Nat.le_of_ble_eq_true rfl) (Nat.le_of_ble_eq_true rfl)
  have O806 := OL.ext E805
  have KP807 := KP0.ext E805
  have Zs808 := Nat.le_trans Z0 E805.1
  have CR809 := CR0.trans CRl805
  have f810 := E1.ext E805
  have f811 := D1.ext E805
  refine own_back st805 ?_
  show OwnGo p e below (T805.setTop (mkF m 9 #[.val (.ref a1)] [(.ref a805)])) _
  refine own_back (fun t k => XS.goto X805.here hx rfl (pc0 := 9) (pc' := 41) rfl (hb hby pts_d9) (by decide) (by decide) k) ?_
  show OwnGo p e below (T805.setTop (mkF m 41 #[.val (.ref a1)] [(.ref a805)])) _
  have LS812 : OwnStr Z h805 a805 [100, 97, 121, 115] := ⟨t805, _, EX805, FC805, FV805, AV805, Nat.le_of_ble_eq_true rfl⟩
  refine own_retAW X805 hx Bd.notSynchronized Bd.returns rfl rfl hS805 hk805 hZ805 hEL (hh ▸ CR809) (hb hby pts_d41) e805 (Nat.le_of_ble_eq_true rfl) (Nat.le_of_ble_eq_true rfl) ?_
  exact ⟨_, rfl, N0, own_ext KP807, LS812⟩
theorem lbl_d0 : decode prog_5_method_9_code 0 = .ok (.aload_n 0, 1) := by decide +kernel
theorem lbl_d1 : decode prog_5_method_9_code 1 = .ok (.getfield 13, 3) := by decide +kernel
theorem lbl_d4 : decode prog_5_method_9_code 4 = .ok (.ifCond .eq 13, 3) := by decide +kernel
theorem lbl_d7 : decode prog_5_method_9_code 7 = .ok (.lload_n 1, 1) := by decide +kernel
theorem lbl_d8 : decode prog_5_method_9_code 8 = .ok (.invokestatic 116, 3) := by decide +kernel
theorem lbl_d11 : decode prog_5_method_9_code 11 = .ok (.invokevirtual 120, 3) := by decide +kernel
theorem lbl_d14 : decode prog_5_method_9_code 14 = .ok (.goto 7, 3) := by decide +kernel
theorem lbl_d21 : decode prog_5_method_9_code 21 = .ok (.areturn, 1) := by decide +kernel
theorem lbl_pn : plainName "com/example/sorted_set_patterns/sortedsetpatterns/Periods" = true := by first | (simp [plainName, overriddenIn]; done) | decide +kernel
theorem lbl_pd0 : parseMethodDescriptor "(J)Ljava/time/LocalDate;" = some ⟨[.long], some (.object "java/time/LocalDate")⟩ := by decide +kernel
theorem lbl_pd1 : parseMethodDescriptor "()Ljava/lang/String;" = some ⟨[], some (.object "java/lang/String")⟩ := by decide +kernel
theorem lbl_ef (m : MethodId) (x0 : Addr) (x1 : Int64) : entryFrame m #[(.ref x0), (.long x1)] 3 = mkF m 0 #[.val (.ref x0), .val (.long x1), .second] [] := by first | (simp [entryFrame, mkF, argsToLocals, Value.category]; done) | rfl
set_option maxRecDepth 65536 in
set_option maxHeartbeats 40000000 in
theorem rm_lbl (l : Launch) (Z : State) (a0 : Array Value) (hw : ∀ d ∈ tables_1, d.before a0 Z = true) (ws : List Jvm.Cond) (a1 : Addr) (c1 : Addr) (c2 : Addr) (wO : Addr) (wT : Addr) (kO : ClassId) (kT : ClassId) (cz : Int32) (h0 : Heap) (n0 : Nat) (Z0 : n0 ≤ h0.size) (OL : Old Z n0 h0) (E1 : Exa Z h0 a1 "com/example/sorted_set_patterns/sortedsetpatterns/Periods") (D1 : Fld Z h0 a1 "com/example/sorted_set_patterns/sortedsetpatterns/Periods" "dated" "Z" (.int 1)) (SE : Sta Z Z.heap "java/time/temporal/ChronoField" "EPOCH_DAY" "Ljava/time/temporal/ChronoField;" (.ref c1)) (EC : Exa Z Z.heap c1 "java/time/temporal/ChronoField") (FR : Fld Z Z.heap c1 "java/time/temporal/ChronoField" "range" "Ljava/time/temporal/ValueRange;" (.ref c2)) (EV : Exa Z Z.heap c2 "java/time/temporal/ValueRange") (F1 : Fld Z Z.heap c2 "java/time/temporal/ValueRange" "minSmallest" "J" (.long (-365243219162))) (F2 : Fld Z Z.heap c2 "java/time/temporal/ValueRange" "maxLargest" "J" (.long 365241780471)) (SO1 : Sta Z Z.heap "java/lang/Integer" "DigitOnes" "[B" (.ref wO)) (SO2 : Sta Z Z.heap "java/lang/Integer" "DigitTens" "[B" (.ref wT)) (AO1 : Arv Z Z.heap wO kO .byte (100 : Int32) own_ones (.int 0)) (AO2 : Arv Z Z.heap wT kT .byte (100 : Int32) own_tens (.int 0)) (SC : Sta Z Z.heap "java/lang/String" "COMPACT_STRINGS" "Z" (.int cz)) (hcz : ¬ cz = 0) :
    MetFree l (⟨"com/example/sorted_set_patterns/sortedsetpatterns/Periods", "label", "(J)Ljava/lang/String;"⟩ : MethodName) (head1 (Jvm.Cond.code (⟨"com/example/sorted_set_patterns/sortedsetpatterns/Periods", "label", "(J)Ljava/lang/String;"⟩ : MethodName) prog_5_method_9_code 3 (some (.object "java/lang/String")) :: ws) ({ frames := 7, cells := 12, slots := 130, locals := 190 } : Room)) (fun a U => a = #[(.ref a1), (.long (0 : Int64))] ∧ Z.Warmed39 U.vm ∧ U.heap = h0 ∧ CHv Z own_EL U.vm h0 ∧ ∀ x ∈ ([] : List Addr), Safe Z own_EL U.vm h0 x) (fun _ _ _ _ _ => True) (fun _ U o U' => OwnEndW Z own_EL U (fun v h L => ∃ a, v = some (.ref a) ∧ Fr n0 L ∧ Ext h0 h ∧ OwnStr Z h a [49, 57, 55, 48, 45, 48, 49, 45, 48, 49]) ({ frames := 7, cells := 12, slots := 130, locals := 190 } : Room).cells ({ frames := 7, cells := 12, slots := 130, locals := 190 } : Room).slots o U') := by
  refine MetFree.of_bodySF (plainFor_of_name lbl_pn) hisR ?_
  intro p e s m args below meth c s₁ Bd hml0 hP hK
  obtain ⟨rfl, hZ, hh, hCH, hSL⟩ := hP
  have hx := Bd.exec
  have hby := Bd.bytes
  have hml : c.maxLocals = 3 := hml0
  have hown : s.vm.findClass "com/example/sorted_set_patterns/sortedsetpatterns/Periods" = some m.cls := findClass_of_methodNamed Bd.named
  have hnm := (name_of_methodNamed Bd.named Bd.method).1
  have X0 : Stand p l e ({ frames := 7, cells := 12, slots := 130, locals := 190 } : Room) (s.setVm s.vm) m #[(.ref a1), (.long (0 : Int64))] below meth c s₁ [] 0 0 := Stand.of_body Bd
  have e0 : s₁.heap = h0 := by rw [← hh, Bd.state]; rfl
  have N0 := Fr.nil n0
  have KP0 := Keep.refl h0 []
  have hown : (s.setVm s.vm).vm.findClass "com/example/sorted_set_patterns/sortedsetpatterns/Periods" = some m.cls := hown
  have hZ : Z.Warmed39 (s.setVm s.vm).vm := hZ
  have hS0 : s.Since s.vm 0 := (State.WarmedH.refl s).since 0
  have hk0 : 0 ≤ h0.size := Nat.zero_le _
  have CR0 : CHr Z own_EL s.vm h0 s.vm h0 := CHr.refl hCH
  have hEL := own_EW hw
  refine own_go (Q := (OwnEndW Z own_EL s (fun v h L => ∃ a, v = some (.ref a) ∧ Fr n0 L ∧ Ext h0 h ∧ OwnStr Z h a [49, 57, 55, 48, 45, 48, 49, 45, 48, 49]) ({ frames := 7, cells := 12, slots := 130, locals := 190 } : Room).cells ({ frames := 7, cells := 12, slots := 130, locals := 190 } : Room).slots)) ?_
  refine own_back (fun t k => castTop (lbl_ef m a1 (0 : Int64)) k) ?_
  show OwnGo p e below (s₁.setTop (mkF m 0 #[.val (.ref a1), .val (.long (0 : Int64)), .second] [])) _
  refine own_back (fun t k => XS.aloadN X0.here hx rfl (hb hby lbl_d0) rfl rfl k) ?_
  show OwnGo p e below (s₁.setTop (mkF m 1 #[.val (.ref a1), .val (.long (0 : Int64)), .second] [(.ref a1)])) _
  obtain ⟨T813, X813, e813, st813⟩ := getF X0 hx hZ hown (host := "") (Or.inl (hw _ (List.mem_of_getElem? (i := 26) rfl))) Via.refl e0 D1 (g := (mkF m 1 #[.val (.ref a1), .val (.long (0 : Int64)), .second] [(.ref a1)])) rfl rfl (hb hby lbl_d1)
  refine own_back st813 ?_
  show OwnGo p e below (T813.setTop (mkF m 4 #[.val (.ref a1), .val (.long (0 : Int64)), .second] [(.int (1 : Int32))])) _
  refine own_back (fun t k => XS.ifNo X813.here hx rfl (hb hby lbl_d4) rfl (Jvm.Free.XT.i0_eq_f (by decide)) k) ?_
  show OwnGo p e below (T813.setTop (mkF m 7 #[.val (.ref a1), .val (.long (0 : Int64)), .second] [])) _
  refine own_back (fun t k => XS.lloadN X813.here hx rfl (hb hby lbl_d7) rfl k) ?_
  show OwnGo p e below (T813.setTop (mkF m 8 #[.val (.ref a1), .val (.long (0 : Int64)), .second] [(.long (0 : Int64))])) _
  obtain ⟨_, _, ⟨T814, L814, k814, n814⟩, -, X814, ⟨Lc814, hQ814, l814, y814, z814⟩, st814⟩ := Jvm.LawKit.callS X813 hx (y := (⟨"java/time/LocalDate", "ofEpochDay", "(J)Ljava/time/LocalDate;"⟩ : MethodName)) hown (mvT hZ (hw _ (List.mem_of_getElem? (i := 134) rfl))) (mvT hZ (hw _ (List.mem_of_getElem? (i := 135) rfl))) (mvT hZ (hw _ (List.mem_of_getElem? (i := 136) rfl))) (mvT hZ (hw _ (List.mem_of_getElem? (i := 137) rfl))) (by decide) (own_backN (W := 0) (rm_oed l Z a0 hw [] c1 c2 h0 n0 Z0 OL SE EC FR EV F1 F2) hZ (hw _ (List.mem_of_getElem? (i := 137) rfl)) (hw _ (List.mem_of_getElem? (i := 136) rfl)) (by decide) (by decide)) (g := (mkF m 8 #[.val (.ref a1), .val (.long (0 : Int64)), .second] [(.long (0 : Int64))])) rfl (by rw [hml]; rfl) (argsL := [(.long (0 : Int64))]) (rest := []) (lenOf lbl_pd0 rfl) rfl (by show 2 * 0 + _ ≤ _; exact Nat.le_of_eq rfl) (hb hby lbl_d8) (fun _ _ => ⟨rfl, e813, Nat.le_of_ble_eq_true rfl, Nat.le_of_ble_eq_true rfl⟩)
  dsimp only [Pt.U, Pt.locs, Pt.cells, Pt.slots] at X814 l814 y814 z814 st814 hQ814
  subst l814 y814 z814
  obtain ⟨al814, rfl, N814q, E814, z814, Xe814, U0814, U1814, U2814⟩ := hQ814
  refine own_back st814 ?_
  have N814 := Fr.app N0 N814q
  have O815 := OL.ext E814
  have KP816 := KP0.ext E814
  have Zs817 := Nat.le_trans Z0 E814.1
  have CR818 := CR0.trans (CHr.ext E814 CR0.1)
  have hk819 := Nat.le_trans hk0 E814.1
  have f820 := E1.ext E814
  have f821 := D1.ext E814
  show OwnGo p e below (T814.setTop (mkF m 11 #[.val (.ref a1), .val (.long (0 : Int64)), .second] [(.ref al814)])) _
  obtain ⟨cq822, kq822, q822a, q822b, q822c⟩ := isOf hZ rfl Xe814
  obtain ⟨_, _, ⟨T822, L822, k822, n822⟩, -, X822, hSn822, hgr822, ⟨Lc822, hQ822, l822, y822, z822, CRn822⟩, st822⟩ := X814.virtualBackS hx (y := (⟨"java/time/LocalDate", "toString", "()Ljava/lang/String;"⟩ : MethodName)) (z := (⟨"java/time/LocalDate", "toString", "()Ljava/lang/String;"⟩ : MethodName)) hown (mvT hZ (hw _ (List.mem_of_getElem? (i := 198) rfl))) (mvT hZ (hw _ (List.mem_of_getElem? (i := 199) rfl))) (notFace_of_selects (args := #[]) (mvT hZ (hw _ (List.mem_of_getElem? (i := 201) rfl)))) (mvT hZ (hw _ (List.mem_of_getElem? (i := 201) rfl))) (mvT hZ (hw _ (List.mem_of_getElem? (i := 200) rfl))) (by decide) (own_backH (W := 0) (rm_ldts l Z a0 hw [] al814 wO wT kO kT cz T814.heap n0 Zs817 O815 Xe814 U0814 U1814 U2814 SO1 SO2 AO1 AO2 SC hcz) hZ (hw _ (List.mem_of_getElem? (i := 202) rfl)) (hw _ (List.mem_of_getElem? (i := 136) rfl)) (by decide) (by decide) hEL CR818.1 sf0 all0) q822a q822c (g := (mkF m 11 #[.val (.ref a1), .val (.long (0 : Int64)), .second] [(.ref al814)])) rfl (by rw [hml]; rfl) (Steps.refl _) (argsL := []) (rest := []) (lenOf lbl_pd1 rfl) rfl (by show 2 * 0 + _ ≤ _; exact Nat.le_of_eq rfl) (hb hby lbl_d11) (fun _ _ => ⟨rfl, rfl, Nat.le_of_ble_eq_true rfl, Nat.le_of_ble_eq_true rfl⟩)
  dsimp only [Pt.U, Pt.locs, Pt.cells, Pt.slots] at X822 l822 y822 z822 st822 hQ822 hSn822 hgr822 CRn822
  subst l822 y822 z822
  obtain ⟨Xr822, hSr822, hZr822, hownr822⟩ := rebS hS0 (own_hle rfl hk819) X822 hSn822 hgr822 hZ hown
  obtain ⟨ar822, rfl, N822q, E822, R822⟩ := hQ822
  refine own_seq st822 ?_
  have N822 := Fr.app N814 N822q
  have O823 := O815.ext E822
  have KP824 := KP816.ext E822
  have Zs825 := Nat.le_trans Zs817 E822.1
  have CR826 := CR818.trans CRn822
  have f827 := f820.ext E822
  have f828 := f821.ext E822
  have f829 := Xe814.ext E822
  have f830 := U0814.ext E822
  have f831 := U1814.ext E822
  have f832 := U2814.ext E822
  show OwnGo p e below (T822.setTop (mkF m 14 #[.val (.ref a1), .val (.long (0 : Int64)), .second] [(.ref ar822)])) _
  refine own_back (fun t k => XS.goto Xr822.here hx rfl (pc0 := 14) (pc' := 21) rfl (hb hby lbl_d14) (by decide) (by decide) k) ?_
  show OwnGo p e below (T822.setTop (mkF m 21 #[.val (.ref a1), .val (.long (0 : Int64)), .second] [(.ref ar822)])) _
  refine own_retAW Xr822 hx Bd.notSynchronized Bd.returns rfl rfl hSr822 (Nat.le_refl _) hZr822 hEL (hh ▸ CR826) (hb hby lbl_d21) rfl (Nat.le_of_ble_eq_true rfl) (Nat.le_of_ble_eq_true rfl) ?_
  exact ⟨_, rfl, N822, own_ext KP824, R822⟩
theorem nam_d0 : decode prog_5_method_7_code 0 = .ok (.new 62, 3) := by decide +kernel
theorem nam_d3 : decode prog_5_method_7_code 3 = .ok (.dup, 1) := by decide +kernel
theorem nam_d4 : decode prog_5_method_7_code 4 = .ok (.invokespecial 64, 3) := by decide +kernel
theorem nam_d7 : decode prog_5_method_7_code 7 = .ok (.aload_n 0, 1) := by decide +kernel
theorem nam_d8 : decode prog_5_method_7_code 8 = .ok (.getfield 7, 3) := by decide +kernel
theorem nam_d11 : decode prog_5_method_7_code 11 = .ok (.invokevirtual 67, 3) := by decide +kernel
theorem nam_d14 : decode prog_5_method_7_code 14 = .ok (.ldc 101, 2) := by decide +kernel
theorem nam_d16 : decode prog_5_method_7_code 16 = .ok (.invokevirtual 67, 3) := by decide +kernel
theorem nam_d19 : decode prog_5_method_7_code 19 = .ok (.aload_n 0, 1) := by decide +kernel
theorem nam_d20 : decode prog_5_method_7_code 20 = .ok (.lload_n 1, 1) := by decide +kernel
theorem nam_d21 : decode prog_5_method_7_code 21 = .ok (.invokevirtual 103, 3) := by decide +kernel
theorem nam_d24 : decode prog_5_method_7_code 24 = .ok (.invokevirtual 67, 3) := by decide +kernel
theorem nam_d27 : decode prog_5_method_7_code 27 = .ok (.invokevirtual 76, 3) := by decide +kernel
theorem nam_d30 : decode prog_5_method_7_code 30 = .ok (.areturn, 1) := by decide +kernel
theorem nam_pn : plainName "com/example/sorted_set_patterns/sortedsetpatterns/Periods" = true := by first | (simp [plainName, overriddenIn]; done) | decide +kernel
theorem nam_pd0 : parseMethodDescriptor "()V" = some ⟨[], none⟩ := by decide +kernel
theorem nam_pd1 : parseMethodDescriptor "(Ljava/lang/String;)Ljava/lang/StringBuilder;" = some ⟨[(.object "java/lang/String")], some (.object "java/lang/StringBuilder")⟩ := by decide +kernel
theorem nam_pd2 : parseMethodDescriptor "(J)Ljava/lang/String;" = some ⟨[.long], some (.object "java/lang/String")⟩ := by decide +kernel
theorem nam_pd3 : parseMethodDescriptor "()Ljava/lang/String;" = some ⟨[], some (.object "java/lang/String")⟩ := by decide +kernel
theorem nam_ef (m : MethodId) (x0 : Addr) (x1 : Int64) : entryFrame m #[(.ref x0), (.long x1)] 3 = mkF m 0 #[.val (.ref x0), .val (.long x1), .second] [] := by first | (simp [entryFrame, mkF, argsToLocals, Value.category]; done) | rfl
set_option maxRecDepth 65536 in
set_option maxHeartbeats 40000000 in
theorem rm_nam (l : Launch) (Z : State) (a0 : Array Value) (hw : ∀ d ∈ tables_1, d.before a0 Z = true) (ws : List Jvm.Cond) (a1 : Addr) (ak : Addr) (c1 : Addr) (c2 : Addr) (wO : Addr) (wT : Addr) (kO : ClassId) (kT : ClassId) (cz : Int32) (h0 : Heap) (n0 : Nat) (Z0 : n0 ≤ h0.size) (OL : Old Z n0 h0) (E1 : Exa Z h0 a1 "com/example/sorted_set_patterns/sortedsetpatterns/Periods") (D1 : Fld Z h0 a1 "com/example/sorted_set_patterns/sortedsetpatterns/Periods" "dated" "Z" (.int 1)) (K1 : Fld Z h0 a1 "com/example/sorted_set_patterns/sortedsetpatterns/Periods" "kind" "Ljava/lang/String;" (.ref ak)) (BK : OwnStr Z h0 ak [100, 97, 121]) (SE : Sta Z Z.heap "java/time/temporal/ChronoField" "EPOCH_DAY" "Ljava/time/temporal/ChronoField;" (.ref c1)) (EC : Exa Z Z.heap c1 "java/time/temporal/ChronoField") (FR : Fld Z Z.heap c1 "java/time/temporal/ChronoField" "range" "Ljava/time/temporal/ValueRange;" (.ref c2)) (EV : Exa Z Z.heap c2 "java/time/temporal/ValueRange") (F1 : Fld Z Z.heap c2 "java/time/temporal/ValueRange" "minSmallest" "J" (.long (-365243219162))) (F2 : Fld Z Z.heap c2 "java/time/temporal/ValueRange" "maxLargest" "J" (.long 365241780471)) (SO1 : Sta Z Z.heap "java/lang/Integer" "DigitOnes" "[B" (.ref wO)) (SO2 : Sta Z Z.heap "java/lang/Integer" "DigitTens" "[B" (.ref wT)) (AO1 : Arv Z Z.heap wO kO .byte (100 : Int32) own_ones (.int 0)) (AO2 : Arv Z Z.heap wT kT .byte (100 : Int32) own_tens (.int 0)) (SC : Sta Z Z.heap "java/lang/String" "COMPACT_STRINGS" "Z" (.int cz)) (hcz : ¬ cz = 0) :
    MetFree l (⟨"com/example/sorted_set_patterns/sortedsetpatterns/Periods", "name", "(J)Ljava/lang/String;"⟩ : MethodName) (head1 (Jvm.Cond.code (⟨"com/example/sorted_set_patterns/sortedsetpatterns/Periods", "name", "(J)Ljava/lang/String;"⟩ : MethodName) prog_5_method_7_code 3 (some (.object "java/lang/String")) :: ws) ({ frames := 8, cells := 20, slots := 230, locals := 206 } : Room)) (fun a U => a = #[(.ref a1), (.long (0 : Int64))] ∧ Z.Warmed39 U.vm ∧ U.heap = h0 ∧ CHv Z own_EL U.vm h0 ∧ ∀ x ∈ ([] : List Addr), Safe Z own_EL U.vm h0 x) (fun _ _ _ _ _ => True) (fun _ U o U' => OwnEndW Z own_EL U (fun v h L => ∃ a, v = some (.ref a) ∧ Fr n0 L ∧ Ext h0 h ∧ OwnStr Z h a [100, 97, 121, 58, 49, 57, 55, 48, 45, 48, 49, 45, 48, 49]) ({ frames := 8, cells := 20, slots := 230, locals := 206 } : Room).cells ({ frames := 8, cells := 20, slots := 230, locals := 206 } : Room).slots o U') := by
  refine MetFree.of_bodySF (plainFor_of_name nam_pn) hisR ?_
  intro p e s m args below meth c s₁ Bd hml0 hP hK
  obtain ⟨rfl, hZ, hh, hCH, hSL⟩ := hP
  have hx := Bd.exec
  have hby := Bd.bytes
  have hml : c.maxLocals = 3 := hml0
  have hown : s.vm.findClass "com/example/sorted_set_patterns/sortedsetpatterns/Periods" = some m.cls := findClass_of_methodNamed Bd.named
  have hnm := (name_of_methodNamed Bd.named Bd.method).1
  have X0 : Stand p l e ({ frames := 8, cells := 20, slots := 230, locals := 206 } : Room) (s.setVm s.vm) m #[(.ref a1), (.long (0 : Int64))] below meth c s₁ [] 0 0 := Stand.of_body Bd
  have e0 : s₁.heap = h0 := by rw [← hh, Bd.state]; rfl
  have N0 := Fr.nil n0
  have KP0 := Keep.refl h0 []
  have hown : (s.setVm s.vm).vm.findClass "com/example/sorted_set_patterns/sortedsetpatterns/Periods" = some m.cls := hown
  have hZ : Z.Warmed39 (s.setVm s.vm).vm := hZ
  have hS0 : s.Since s.vm 0 := (State.WarmedH.refl s).since 0
  have hk0 : 0 ≤ h0.size := Nat.zero_le _
  have CR0 : CHr Z own_EL s.vm h0 s.vm h0 := CHr.refl hCH
  have hEL := own_EW hw
  refine own_go (Q := (OwnEndW Z own_EL s (fun v h L => ∃ a, v = some (.ref a) ∧ Fr n0 L ∧ Ext h0 h ∧ OwnStr Z h a [100, 97, 121, 58, 49, 57, 55, 48, 45, 48, 49, 45, 48, 49]) ({ frames := 8, cells := 20, slots := 230, locals := 206 } : Room).cells ({ frames := 8, cells := 20, slots := 230, locals := 206 } : Room).slots)) ?_
  refine own_back (fun t k => castTop (nam_ef m a1 (0 : Int64)) k) ?_
  show OwnGo p e below (s₁.setTop (mkF m 0 #[.val (.ref a1), .val (.long (0 : Int64)), .second] [])) _
  obtain ⟨T833, h833, X833, e833, E833, A833, D833, -, st833⟩ := newO X0 hx hZ hown (hw _ (List.mem_of_getElem? (i := 61) rfl)) (hw _ (List.mem_of_getElem? (i := 62) rfl)) (hw _ (List.mem_of_getElem? (i := 63) rfl)) e0 (g := (mkF m 0 #[.val (.ref a1), .val (.long (0 : Int64)), .second] [])) rfl (hb hby nam_d0) (Nat.le_of_ble_eq_true rfl) (Nat.le_of_ble_eq_true rfl)
  obtain ⟨b833, g833⟩ : ∃ z, z = h0.size := ⟨_, rfl⟩
  have ge834 : n0 ≤ b833 := Nat.le_trans Z0 (Nat.le_of_eq g833.symm)
  have sz835 : h0.size ≤ b833 := Nat.le_trans KP0.1 (Nat.le_of_eq g833.symm)
  rw [← g833] at A833 D833 st833
  have O836 := OL.ext E833
  have KP837 := KP0.ext E833
  have Zs838 := Nat.le_trans Z0 E833.1
  have CR839 := CR0.trans (CHr.ext E833 CR0.1)
  have hk840 := Nat.le_trans hk0 E833.1
  have f841 := E1.ext E833
  have f842 := K1.ext E833
  have F843 : Fld Z h833 b833 "java/lang/AbstractStringBuilder" "value" "[B" .null := D833 (Or.inl (hw _ (List.mem_of_getElem? (i := 76) rfl))) (ty := (.array .byte)) (by decide)
  have F844 : Fld Z h833 b833 "java/lang/AbstractStringBuilder" "coder" "B" (.int (0 : Int32)) := D833 (Or.inl (hw _ (List.mem_of_getElem? (i := 78) rfl))) (ty := .byte) (by decide)
  have F845 : Fld Z h833 b833 "java/lang/AbstractStringBuilder" "count" "I" (.int (0 : Int32)) := D833 (Or.inl (hw _ (List.mem_of_getElem? (i := 103) rfl))) (ty := .int) (by decide)
  have sf846 := Safe.ext E833 CR0.1 (Safe.new (Nat.le_of_eq g833.symm))
  refine own_back st833 ?_
  show OwnGo p e below (T833.setTop (mkF m 3 #[.val (.ref a1), .val (.long (0 : Int64)), .second] [(.ref b833)])) _
  refine own_back (fun t k => XS.dup X833.here hx rfl (hb hby nam_d3) rfl rfl k) ?_
  show OwnGo p e below (T833.setTop (mkF m 4 #[.val (.ref a1), .val (.long (0 : Int64)), .second] [(.ref b833), (.ref b833)])) _
  obtain ⟨_, _, ⟨T847, L847, k847, n847⟩, -, X847, ⟨Lc847, hQ847, l847, y847, z847⟩, st847⟩ := X833.specialBack hx (y := (⟨"java/lang/StringBuilder", "<init>", "()V"⟩ : MethodName)) rfl hown (mvT hZ (hw _ (List.mem_of_getElem? (i := 64) rfl))) (mvT hZ (hw _ (List.mem_of_getElem? (i := 65) rfl))) (mvT hZ (hw _ (List.mem_of_getElem? (i := 66) rfl))) (by decide) (own_backN (W := 1) (rm_sbi16 l Z a0 hw [] b833 cz h833 n0 Zs838 O836 A833 F844 F843 F845 ge834 SC hcz) hZ (hw _ (List.mem_of_getElem? (i := 66) rfl)) (hw _ (List.mem_of_getElem? (i := 63) rfl)) (by decide) (by decide)) (g := (mkF m 4 #[.val (.ref a1), .val (.long (0 : Int64)), .second] [(.ref b833), (.ref b833)])) rfl (by rw [hml]; rfl) (Steps.refl _) (a := b833) (argsL := []) (rest := [(.ref b833)]) (lenOf nam_pd0 rfl) rfl (by show 2 * 0 + _ ≤ _; exact Nat.le_of_eq rfl) (hb hby nam_d4) (fun _ _ => ⟨rfl, e833, Nat.le_of_ble_eq_true rfl, Nat.le_of_ble_eq_true rfl⟩)
  dsimp only [Pt.U, Pt.locs, Pt.cells, Pt.slots] at X847 l847 y847 z847 st847 hQ847
  subst l847 y847 z847
  obtain ⟨rfl, N847q, K847, tb847, z847, B847⟩ := hQ847
  refine own_seq st847 ?_
  have N847 := Fr.app N0 N847q
  have ge848 : n0 ≤ tb847 := Nat.le_trans Zs838 z847
  have sz849 : h0.size ≤ tb847 := Nat.le_trans KP837.1 z847
  have O850 := O836.keep K847 (allS ge834 all0)
  have KP851 := KP837.trans K847 (allS (Or.inr sz835) all0)
  have Zs852 := Nat.le_trans Zs838 K847.1
  have CR853 := CR839.trans (CHr.keep K847 (sfS sf846 sf0) CR839.1)
  have hk854 := Nat.le_trans hk840 K847.1
  have f855 := f841.keep K847
  have f856 := f842.keep K847 (ninS (Nat.ne_of_lt (Nat.lt_of_lt_of_le E1.lt (Nat.le_of_eq g833.symm))) nin0)
  have f857 := A833.keep K847
  have f858 := (Safe.keep K847 (sfS sf846 sf0) CR839.1 sf846)
  have sf859 := Safe.keep K847 (sfS sf846 sf0) CR839.1 (Safe.new z847)
  show OwnGo p e below (T847.setTop (mkF m 7 #[.val (.ref a1), .val (.long (0 : Int64)), .second] [(.ref b833)])) _
  refine own_back (fun t k => XS.aloadN X847.here hx rfl (hb hby nam_d7) rfl rfl k) ?_
  show OwnGo p e below (T847.setTop (mkF m 8 #[.val (.ref a1), .val (.long (0 : Int64)), .second] [(.ref a1), (.ref b833)])) _
  obtain ⟨T860, X860, e860, st860⟩ := getF X847 hx hZ hown (host := "") (Or.inl (hw _ (List.mem_of_getElem? (i := 24) rfl))) Via.refl rfl f856 (g := (mkF m 8 #[.val (.ref a1), .val (.long (0 : Int64)), .second] [(.ref a1), (.ref b833)])) rfl rfl (hb hby nam_d8)
  refine own_back st860 ?_
  show OwnGo p e below (T860.setTop (mkF m 11 #[.val (.ref a1), .val (.long (0 : Int64)), .second] [(.ref ak), (.ref b833)])) _
  obtain ⟨cq861, kq861, q861a, q861b, q861c⟩ := isOf hZ e860 f857
  obtain ⟨_, _, ⟨T861, L861, k861, n861⟩, -, X861, ⟨Lc861, hQ861, l861, y861, z861⟩, st861⟩ := X860.virtualBack hx (y := (⟨"java/lang/StringBuilder", "append", "(Ljava/lang/String;)Ljava/lang/StringBuilder;"⟩ : MethodName)) (z := (⟨"java/lang/StringBuilder", "append", "(Ljava/lang/String;)Ljava/lang/StringBuilder;"⟩ : MethodName)) hown (mvT hZ (hw _ (List.mem_of_getElem? (i := 79) rfl))) (mvT hZ (hw _ (List.mem_of_getElem? (i := 80) rfl))) (notFace_of_selects (args := #[]) (mvT hZ (hw _ (List.mem_of_getElem? (i := 82) rfl)))) (mvT hZ (hw _ (List.mem_of_getElem? (i := 82) rfl))) (mvT hZ (hw _ (List.mem_of_getElem? (i := 81) rfl))) (by decide) (own_backN (W := 0) (rm_sap l Z a0 hw [] b833 tb847 [0, 0, 0, 0, 0, 0, 0, 0, 0, 0, 0, 0, 0, 0, 0, 0] 0 ak [100, 97, 121] cz T847.heap n0 Zs852 O850 B847 (OwnStr.ext (own_ext KP851) BK) ge834 ge848 (Nat.le_of_ble_eq_true rfl) SC hcz) hZ (hw _ (List.mem_of_getElem? (i := 83) rfl)) (hw _ (List.mem_of_getElem? (i := 63) rfl)) (by decide) (by decide)) q861a q861c (g := (mkF m 11 #[.val (.ref a1), .val (.long (0 : Int64)), .second] [(.ref ak), (.ref b833)])) rfl (by rw [hml]; rfl) (Steps.refl _) (argsL := [(.ref ak)]) (rest := []) (lenOf nam_pd1 rfl) rfl (by show 2 * 0 + _ ≤ _; exact Nat.le_of_eq rfl) (hb hby nam_d11) (fun _ _ => ⟨rfl, e860, Nat.le_of_ble_eq_true rfl, Nat.le_of_ble_eq_true rfl⟩)
  dsimp only [Pt.U, Pt.locs, Pt.cells, Pt.slots] at X861 l861 y861 z861 st861 hQ861
  subst l861 y861 z861
  obtain ⟨rfl, N861q, K861, B861⟩ := hQ861
  refine own_seq st861 ?_
  have N861 := Fr.app N847 N861q
  have O862 := O850.keep K861 (allS ge834 (allS ge848 all0))
  have KP863 := KP851.trans K861 (allS (Or.inr sz835) (allS (Or.inr sz849) all0))
  have Zs864 := Nat.le_trans Zs852 K861.1
  have CR865 := CR853.trans (CHr.keep K861 (sfS f858 (sfS sf859 sf0)) CR853.1)
  have hk866 := Nat.le_trans hk854 K861.1
  have f867 := f857.keep K861
  have f868 := (Safe.keep K861 (sfS f858 (sfS sf859 sf0)) CR853.1 f858)
  have f869 := (Safe.keep K861 (sfS f858 (sfS sf859 sf0)) CR853.1 sf859)
  have Bd870 : OwnBd Z T861.heap b833 tb847 [100, 97, 121, 0, 0, 0, 0, 0, 0, 0, 0, 0, 0, 0, 0, 0] 3 := own_bdcast rfl rfl B861
  show OwnGo p e below (T861.setTop (mkF m 14 #[.val (.ref a1), .val (.long (0 : Int64)), .second] [(.ref b833)])) _
  obtain ⟨a871, T871, h871, k1871, t871, kb871, X871, e871, E871, hS871, hk871, hZ871, hown871, EX871, FC871, FV871, AV871, la871, lb871, CRl871, hLit871, sx871, st871⟩ := ldcCH X861 hx hZ hown (hw _ (List.mem_of_getElem? (i := 129) rfl)) (own_wS hw) rfl hS0 hk866 hEL (List.mem_of_getElem? (i := 1) rfl) CR865.1 (vs := [(.int 58)]) (z := 1) ⟨by decide, by decide⟩ (by decide) (by decide) (g := (mkF m 14 #[.val (.ref a1), .val (.long (0 : Int64)), .second] [(.ref b833)])) rfl (hb hby nam_d14) (n := 4) (Nat.le_of_ble_eq_true rfl) (by decide) (Nat.le_of_ble_eq_true rfl) (Nat.le_of_ble_eq_true rfl)
  have O872 := O862.ext E871
  have KP873 := KP863.ext E871
  have Zs874 := Nat.le_trans Zs864 E871.1
  have CR875 := CR865.trans CRl871
  have f876 := f867.ext E871
  have f877 := (CRl871.safe f867.lt f868)
  have f878 := (CRl871.safe (OwnBd.ltT Bd870) f869)
  have f879 := (OwnBd.ext E871 Bd870)
  refine own_back st871 ?_
  show OwnGo p e below (T871.setTop (mkF m 16 #[.val (.ref a1), .val (.long (0 : Int64)), .second] [(.ref a871), (.ref b833)])) _
  have LS880 : OwnStr Z h871 a871 [58] := ⟨t871, _, EX871, FC871, FV871, AV871, Nat.le_of_ble_eq_true rfl⟩
  obtain ⟨cq881, kq881, q881a, q881b, q881c⟩ := isOf hZ871 e871 f876
  obtain ⟨_, _, ⟨T881, L881, k881, n881⟩, -, X881, ⟨Lc881, hQ881, l881, y881, z881⟩, st881⟩ := X871.virtualBack hx (y := (⟨"java/lang/StringBuilder", "append", "(Ljava/lang/String;)Ljava/lang/StringBuilder;"⟩ : MethodName)) (z := (⟨"java/lang/StringBuilder", "append", "(Ljava/lang/String;)Ljava/lang/StringBuilder;"⟩ : MethodName)) hown871 (mvT hZ871 (hw _ (List.mem_of_getElem? (i := 79) rfl))) (mvT hZ871 (hw _ (List.mem_of_getElem? (i := 80) rfl))) (notFace_of_selects (args := #[]) (mvT hZ871 (hw _ (List.mem_of_getElem? (i := 82) rfl)))) (mvT hZ871 (hw _ (List.mem_of_getElem? (i := 82) rfl))) (mvT hZ871 (hw _ (List.mem_of_getElem? (i := 81) rfl))) (by decide) (own_backN (W := 0) (rm_sap l Z a0 hw [] b833 tb847 [100, 97, 121, 0, 0, 0, 0, 0, 0, 0, 0, 0, 0, 0, 0, 0] 3 a871 [58] cz h871 n0 Zs874 O872 f879 LS880 ge834 ge848 (Nat.le_of_ble_eq_true rfl) SC hcz) hZ871 (hw _ (List.mem_of_getElem? (i := 83) rfl)) (hw _ (List.mem_of_getElem? (i := 63) rfl)) (by decide) (by decide)) q881a q881c (g := (mkF m 16 #[.val (.ref a1), .val (.long (0 : Int64)), .second] [(.ref a871), (.ref b833)])) rfl (by rw [hml]; rfl) (Steps.refl _) (argsL := [(.ref a871)]) (rest := []) (lenOf nam_pd1 rfl) rfl (by show 2 * 0 + _ ≤ _; exact Nat.le_of_eq rfl) (hb hby nam_d16) (fun _ _ => ⟨rfl, e871, Nat.le_of_ble_eq_true rfl, Nat.le_of_ble_eq_true rfl⟩)
  dsimp only [Pt.U, Pt.locs, Pt.cells, Pt.slots] at X881 l881 y881 z881 st881 hQ881
  subst l881 y881 z881
  obtain ⟨rfl, N881q, K881, B881⟩ := hQ881
  refine own_seq st881 ?_
  have N881 := Fr.app N861 N881q
  have O882 := O872.keep K881 (allS ge834 (allS ge848 all0))
  have KP883 := KP873.trans K881 (allS (Or.inr sz835) (allS (Or.inr sz849) all0))
  have Zs884 := Nat.le_trans Zs874 K881.1
  have CR885 := CR875.trans (CHr.keep K881 (sfS f877 (sfS f878 sf0)) CR875.1)
  have hk886 := Nat.le_trans hk871 K881.1
  have f887 := f876.keep K881
  have f888 := (Safe.keep K881 (sfS f877 (sfS f878 sf0)) CR875.1 f877)
  have f889 := (Safe.keep K881 (sfS f877 (sfS f878 sf0)) CR875.1 f878)
  have Bd890 : OwnBd Z T881.heap b833 tb847 [100, 97, 121, 58, 0, 0, 0, 0, 0, 0, 0, 0, 0, 0, 0, 0] 4 := own_bdcast rfl rfl B881
  show OwnGo p e below (T881.setTop (mkF m 19 #[.val (.ref a1), .val (.long (0 : Int64)), .second] [(.ref b833)])) _
  refine own_back (fun t k => XS.aloadN X881.here hx rfl (hb hby nam_d19) rfl rfl k) ?_
  show OwnGo p e below (T881.setTop (mkF m 20 #[.val (.ref a1), .val (.long (0 : Int64)), .second] [(.ref a1), (.ref b833)])) _
  refine own_back (fun t k => XS.lloadN X881.here hx rfl (hb hby nam_d20) rfl k) ?_
  show OwnGo p e below (T881.setTop (mkF m 21 #[.val (.ref a1), .val (.long (0 : Int64)), .second] [(.long (0 : Int64)), (.ref a1), (.ref b833)])) _
  obtain ⟨cq891, kq891, q891a, q891b, q891c⟩ := isOf hZ871 rfl (E1.ext (own_ext KP883))
  obtain ⟨_, _, ⟨T891, L891, k891, n891⟩, -, X891, hSn891, hgr891, ⟨Lc891, hQ891, l891, y891, z891, CRn891⟩, st891⟩ := own_privS X881 hx (y := (⟨"com/example/sorted_set_patterns/sortedsetpatterns/Periods", "label", "(J)Ljava/lang/String;"⟩ : MethodName)) hown871 (mvT hZ871 (hw _ (List.mem_of_getElem? (i := 130) rfl))) (mvT hZ871 (hw _ (List.mem_of_getElem? (i := 131) rfl))) (mvT hZ871 (hw _ (List.mem_of_getElem? (i := 8) rfl))) (Cond.privateMethod_at (args := #[]) (mvT hZ871 (hw _ (List.mem_of_getElem? (i := 132) rfl)))) (mvT hZ871 (hw _ (List.mem_of_getElem? (i := 133) rfl))) (by decide) (own_backH (W := 1) (rm_lbl l Z a0 hw [] a1 c1 c2 wO wT kO kT cz T881.heap n0 Zs884 O882 (E1.ext (own_ext KP883)) (D1.ext (own_ext KP883)) SE EC FR EV F1 F2 SO1 SO2 AO1 AO2 SC hcz) hZ871 (hw _ (List.mem_of_getElem? (i := 133) rfl)) (hw _ (List.mem_of_getElem? (i := 5) rfl)) (by decide) (by decide) hEL CR885.1 sf0 all0) q891c (g := (mkF m 21 #[.val (.ref a1), .val (.long (0 : Int64)), .second] [(.long (0 : Int64)), (.ref a1), (.ref b833)])) rfl (by rw [hml]; rfl) (Steps.refl _) (argsL := [(.long (0 : Int64))]) (rest := [(.ref b833)]) (lenOf nam_pd2 rfl) rfl (by show 2 * 0 + _ ≤ _; exact Nat.le_of_eq rfl) (hb hby nam_d21) (fun _ _ => ⟨rfl, rfl, Nat.le_of_ble_eq_true rfl, Nat.le_of_ble_eq_true rfl⟩)
  dsimp only [Pt.U, Pt.locs, Pt.cells, Pt.slots] at X891 l891 y891 z891 st891 hQ891 hSn891 hgr891 CRn891
  subst l891 y891 z891
  obtain ⟨Xr891, hSr891, hZr891, hownr891⟩ := rebS hS871 (own_hle rfl hk886) X891 hSn891 hgr891 hZ871 hown871
  obtain ⟨al891, rfl, N891q, E891, R891⟩ := hQ891
  refine own_seq st891 ?_
  have N891 := Fr.app N881 N891q
  have O892 := O882.ext E891
  have KP893 := KP883.ext E891
  have Zs894 := Nat.le_trans Zs884 E891.1
  have CR895 := CR885.trans CRn891
  have f896 := f887.ext E891
  have f897 := (CRn891.safe f887.lt f888)
  have f898 := (CRn891.safe (OwnBd.ltT Bd890) f889)
  have f899 := (OwnBd.ext E891 Bd890)
  show OwnGo p e below (T891.setTop (mkF m 24 #[.val (.ref a1), .val (.long (0 : Int64)), .second] [(.ref al891), (.ref b833)])) _
  obtain ⟨cq900, kq900, q900a, q900b, q900c⟩ := isOf hZr891 rfl f896
  obtain ⟨_, _, ⟨T900, L900, k900, n900⟩, -, X900, ⟨Lc900, hQ900, l900, y900, z900⟩, st900⟩ := Xr891.virtualBack hx (y := (⟨"java/lang/StringBuilder", "append", "(Ljava/lang/String;)Ljava/lang/StringBuilder;"⟩ : MethodName)) (z := (⟨"java/lang/StringBuilder", "append", "(Ljava/lang/String;)Ljava/lang/StringBuilder;"⟩ : MethodName)) hownr891 (mvT hZr891 (hw _ (List.mem_of_getElem? (i := 79) rfl))) (mvT hZr891 (hw _ (List.mem_of_getElem? (i := 80) rfl))) (notFace_of_selects (args := #[]) (mvT hZr891 (hw _ (List.mem_of_getElem? (i := 82) rfl)))) (mvT hZr891 (hw _ (List.mem_of_getElem? (i := 82) rfl))) (mvT hZr891 (hw _ (List.mem_of_getElem? (i := 81) rfl))) (by decide) (own_backN (W := 0) (rm_sap l Z a0 hw [] b833 tb847 [100, 97, 121, 58, 0, 0, 0, 0, 0, 0, 0, 0, 0, 0, 0, 0] 4 al891 [49, 57, 55, 48, 45, 48, 49, 45, 48, 49] cz T891.heap n0 Zs894 O892 f899 R891 ge834 ge848 (Nat.le_of_ble_eq_true rfl) SC hcz) hZr891 (hw _ (List.mem_of_getElem? (i := 83) rfl)) (hw _ (List.mem_of_getElem? (i := 63) rfl)) (by decide) (by decide)) q900a q900c (g := (mkF m 24 #[.val (.ref a1), .val (.long (0 : Int64)), .second] [(.ref al891), (.ref b833)])) rfl (by rw [hml]; rfl) (Steps.refl _) (argsL := [(.ref al891)]) (rest := []) (lenOf nam_pd1 rfl) rfl (by show 2 * 0 + _ ≤ _; exact Nat.le_of_eq rfl) (hb hby nam_d24) (fun _ _ => ⟨rfl, rfl, Nat.le_of_ble_eq_true rfl, Nat.le_of_ble_eq_true rfl⟩)
  dsimp only [Pt.U, Pt.locs, Pt.cells, Pt.slots] at X900 l900 y900 z900 st900 hQ900
  subst l900 y900 z900
  obtain ⟨rfl, N900q, K900, B900⟩ := hQ900
  refine own_seq st900 ?_
  have N900 := Fr.app N891 N900q
  have O901 := O892.keep K900 (allS ge834 (allS ge848 all0))
  have KP902 := KP893.trans K900 (allS (Or.inr sz835) (allS (Or.inr sz849) all0))
  have Zs903 := Nat.le_trans Zs894 K900.1
  have CR904 := CR895.trans (CHr.keep K900 (sfS f897 (sfS f898 sf0)) CR895.1)
  have hk905 := Nat.le_trans (Nat.le_refl _) K900.1
  have f906 := f896.keep K900
  have f907 := (Safe.keep K900 (sfS f897 (sfS f898 sf0)) CR895.1 f897)
  have f908 := (Safe.keep K900 (sfS f897 (sfS f898 sf0)) CR895.1 f898)
  have Bd909 : OwnBd Z T900.heap b833 tb847 [100, 97, 121, 58, 49, 57, 55, 48, 45, 48, 49, 45, 48, 49, 0, 0] 14 := own_bdcast rfl rfl B900
  show OwnGo p e below (T900.setTop (mkF m 27 #[.val (.ref a1), .val (.long (0 : Int64)), .second] [(.ref b833)])) _
  obtain ⟨cq910, kq910, q910a, q910b, q910c⟩ := isOf hZr891 rfl f906
  obtain ⟨_, _, ⟨T910, L910, k910, n910⟩, -, X910, ⟨Lc910, hQ910, l910, y910, z910⟩, st910⟩ := X900.virtualBack hx (y := (⟨"java/lang/StringBuilder", "toString", "()Ljava/lang/String;"⟩ : MethodName)) (z := (⟨"java/lang/StringBuilder", "toString", "()Ljava/lang/String;"⟩ : MethodName)) hownr891 (mvT hZr891 (hw _ (List.mem_of_getElem? (i := 278) rfl))) (mvT hZr891 (hw _ (List.mem_of_getElem? (i := 238) rfl))) (notFace_of_selects (args := #[]) (mvT hZr891 (hw _ (List.mem_of_getElem? (i := 240) rfl)))) (mvT hZr891 (hw _ (List.mem_of_getElem? (i := 240) rfl))) (mvT hZr891 (hw _ (List.mem_of_getElem? (i := 239) rfl))) (by decide) (own_backN (W := 0) (rm_sts14 l Z a0 hw [] b833 tb847 100 97 121 58 49 57 55 48 45 48 49 45 48 49 0 0 cz T900.heap n0 Zs903 O901 Bd909 SC hcz) hZr891 (hw _ (List.mem_of_getElem? (i := 241) rfl)) (hw _ (List.mem_of_getElem? (i := 63) rfl)) (by decide) (by decide)) q910a q910c (g := (mkF m 27 #[.val (.ref a1), .val (.long (0 : Int64)), .second] [(.ref b833)])) rfl (by rw [hml]; rfl) (Steps.refl _) (argsL := []) (rest := []) (lenOf nam_pd3 rfl) rfl (by show 2 * 0 + _ ≤ _; exact Nat.le_of_eq rfl) (hb hby nam_d27) (fun _ _ => ⟨rfl, rfl, Nat.le_of_ble_eq_true rfl, Nat.le_of_ble_eq_true rfl⟩)
  dsimp only [Pt.U, Pt.locs, Pt.cells, Pt.slots] at X910 l910 y910 z910 st910 hQ910
  subst l910 y910 z910
  obtain ⟨ar910, rfl, N910q, E910, R910⟩ := hQ910
  refine own_seq st910 ?_
  have N910 := Fr.app N900 N910q
  have O911 := O901.ext E910
  have KP912 := KP902.ext E910
  have Zs913 := Nat.le_trans Zs903 E910.1
  have CR914 := CR904.trans (CHr.ext E910 CR904.1)
  have hk915 := Nat.le_trans hk905 E910.1
  have f916 := f906.ext E910
  have f917 := (Safe.ext E910 CR904.1 f907)
  have f918 := (Safe.ext E910 CR904.1 f908)
  have f919 := (OwnBd.ext E910 Bd909)
  show OwnGo p e below (T910.setTop (mkF m 30 #[.val (.ref a1), .val (.long (0 : Int64)), .second] [(.ref ar910)])) _
  refine own_retAW X910 hx Bd.notSynchronized Bd.returns rfl rfl hSr891 hk915 hZr891 hEL (hh ▸ CR914) (hb hby nam_d30) rfl (Nat.le_of_ble_eq_true rfl) (Nat.le_of_ble_eq_true rfl) ?_
  exact ⟨_, rfl, N910, own_ext KP912, R910⟩
theorem lw_pn : plainName "com/example/sorted_set_patterns/sortedsetpatterns/PeriodsDaysPinLaw" = true := by first | (simp [plainName, overriddenIn]; done) | decide +kernel
theorem lw_pd0 : parseMethodDescriptor "()Lcom/example/sorted_set_patterns/sortedsetpatterns/Periods;" = some ⟨[], some (.object "com/example/sorted_set_patterns/sortedsetpatterns/Periods")⟩ := by decide +kernel
theorem lw_pd1 : parseMethodDescriptor "(J)J" = some ⟨[.long], some .long⟩ := by decide +kernel
theorem lw_pd2 : parseMethodDescriptor "()Ljava/lang/String;" = some ⟨[], some (.object "java/lang/String")⟩ := by decide +kernel
theorem lw_pd3 : parseMethodDescriptor "(Ljava/lang/Object;)Z" = some ⟨[(.object "java/lang/Object")], some .boolean⟩ := by decide +kernel
theorem lw_pd4 : parseMethodDescriptor "(J)Ljava/lang/String;" = some ⟨[.long], some (.object "java/lang/String")⟩ := by decide +kernel
theorem lw_ef (m : MethodId) (x0 : Int64) : entryFrame m #[(.long x0)] maxLocals = mkF m 0 #[.val (.long x0), .second, .unset, .unset, .unset, .unset, .unset, .unset, .unset, .unset, .unset, .unset, .unset, .unset, .unset, .unset] [] := by first | (simp [entryFrame, mkF, argsToLocals, Value.category, maxLocals]; done) | rfl
set_option maxRecDepth 65536 in
set_option maxHeartbeats 40000000 in
theorem rm_law (l : Launch) (Z : State) (a0 : Array Value) (hw : ∀ d ∈ tables_1, d.before a0 Z = true) (ws : List Jvm.Cond) (x1 : Int64) (c1 : Addr) (c2 : Addr) (wO : Addr) (wT : Addr) (kO : ClassId) (kT : ClassId) (cz : Int32) (h0 : Heap) (n0 : Nat) (Z0 : n0 ≤ h0.size) (OL : Old Z n0 h0) (SE : Sta Z Z.heap "java/time/temporal/ChronoField" "EPOCH_DAY" "Ljava/time/temporal/ChronoField;" (.ref c1)) (EC : Exa Z Z.heap c1 "java/time/temporal/ChronoField") (FR : Fld Z Z.heap c1 "java/time/temporal/ChronoField" "range" "Ljava/time/temporal/ValueRange;" (.ref c2)) (EV : Exa Z Z.heap c2 "java/time/temporal/ValueRange") (F1 : Fld Z Z.heap c2 "java/time/temporal/ValueRange" "minSmallest" "J" (.long (-365243219162))) (F2 : Fld Z Z.heap c2 "java/time/temporal/ValueRange" "maxLargest" "J" (.long 365241780471)) (SO1 : Sta Z Z.heap "java/lang/Integer" "DigitOnes" "[B" (.ref wO)) (SO2 : Sta Z Z.heap "java/lang/Integer" "DigitTens" "[B" (.ref wT)) (AO1 : Arv Z Z.heap wO kO .byte (100 : Int32) own_ones (.int 0)) (AO2 : Arv Z Z.heap wT kT .byte (100 : Int32) own_tens (.int 0)) (SC : Sta Z Z.heap "java/lang/String" "COMPACT_STRINGS" "Z" (.int cz)) (hcz : ¬ cz = 0) :
    MetFree l x (head1 (Jvm.Cond.code x code maxLocals ret :: ws) room_1) (fun a U => a = #[(.long x1)] ∧ Z.Warmed39 U.vm ∧ U.heap = h0 ∧ CHv Z own_EL U.vm h0 ∧ ∀ x ∈ ([] : List Addr), Safe Z own_EL U.vm h0 x) (fun _ _ _ _ _ => True) (fun _ U o U' => OwnEndW Z own_EL U (fun v h L => v = some (.int 1) ∧ Fr n0 L) room_1.cells room_1.slots o U') := by
  refine MetFree.of_bodySF (plainFor_of_name lw_pn) hisR ?_
  intro p e s m args below meth c s₁ Bd hml0 hP hK
  obtain ⟨rfl, hZ, hh, hCH, hSL⟩ := hP
  have hx := Bd.exec
  have hby := Bd.bytes
  have hml : c.maxLocals = 16 := hml0
  have hown : s.vm.findClass "com/example/sorted_set_patterns/sortedsetpatterns/PeriodsDaysPinLaw" = some m.cls := findClass_of_methodNamed Bd.named
  have hnm := (name_of_methodNamed Bd.named Bd.method).1
  have X0 : Stand p l e room_1 (s.setVm s.vm) m #[(.long x1)] below meth c s₁ [] 0 0 := Stand.of_body Bd
  have e0 : s₁.heap = h0 := by rw [← hh, Bd.state]; rfl
  have N0 := Fr.nil n0
  have KP0 := Keep.refl h0 []
  have hown : (s.setVm s.vm).vm.findClass "com/example/sorted_set_patterns/sortedsetpatterns/PeriodsDaysPinLaw" = some m.cls := hown
  have hZ : Z.Warmed39 (s.setVm s.vm).vm := hZ
  have hS0 : s.Since s.vm 0 := (State.WarmedH.refl s).since 0
  have hk0 : 0 ≤ h0.size := Nat.zero_le _
  have CR0 : CHr Z own_EL s.vm h0 s.vm h0 := CHr.refl hCH
  have hEL := own_EW hw
  refine own_go (Q := (OwnEndW Z own_EL s (fun v h L => v = some (.int 1) ∧ Fr n0 L) room_1.cells room_1.slots)) ?_
  refine own_back (fun t k => castTop (lw_ef m x1) k) ?_
  show OwnGo p e below (s₁.setTop (mkF m 0 #[.val (.long x1), .second, .unset, .unset, .unset, .unset, .unset, .unset, .unset, .unset, .unset, .unset, .unset, .unset, .unset, .unset] [])) _
  refine own_back (fun t k => X0.ldc2Long hx hown (mvT hZ (hw _ (List.mem_of_getElem? (i := 0) rfl))) (g := (mkF m 0 #[.val (.long x1), .second, .unset, .unset, .unset, .unset, .unset, .unset, .unset, .unset, .unset, .unset, .unset, .unset, .unset, .unset] [])) rfl (hb hby at_0) t k) ?_
  show OwnGo p e below (s₁.setTop (mkF m 3 #[.val (.long x1), .second, .unset, .unset, .unset, .unset, .unset, .unset, .unset, .unset, .unset, .unset, .unset, .unset, .unset, .unset] [(.long (86400000 : Int64))])) _
  refine own_back (fun t k => XS.lstoreN X0.here hx rfl (hb hby at_3) rfl (l' := #[.val (.long x1), .second, .val (.long (86400000 : Int64)), .second, .unset, .unset, .unset, .unset, .unset, .unset, .unset, .unset, .unset, .unset, .unset, .unset]) rfl k) ?_
  show OwnGo p e below (s₁.setTop (mkF m 4 #[.val (.long x1), .second, .val (.long (86400000 : Int64)), .second, .unset, .unset, .unset, .unset, .unset, .unset, .unset, .unset, .unset, .unset, .unset, .unset] [])) _
  refine own_back (fun t k => XS.lloadN X0.here hx rfl (hb hby at_4) rfl k) ?_
  show OwnGo p e below (s₁.setTop (mkF m 5 #[.val (.long x1), .second, .val (.long (86400000 : Int64)), .second, .unset, .unset, .unset, .unset, .unset, .unset, .unset, .unset, .unset, .unset, .unset, .unset] [(.long x1)])) _
  refine own_back (fun t k => X0.ldc2Long hx hown (mvT hZ (hw _ (List.mem_of_getElem? (i := 1) rfl))) (g := (mkF m 5 #[.val (.long x1), .second, .val (.long (86400000 : Int64)), .second, .unset, .unset, .unset, .unset, .unset, .unset, .unset, .unset, .unset, .unset, .unset, .unset] [(.long x1)])) rfl (hb hby at_5) t k) ?_
  show OwnGo p e below (s₁.setTop (mkF m 8 #[.val (.long x1), .second, .val (.long (86400000 : Int64)), .second, .unset, .unset, .unset, .unset, .unset, .unset, .unset, .unset, .unset, .unset, .unset, .unset] [(.long (9223372036854775807 : Int64)), (.long x1)])) _
  refine own_back (fun t k => XS.land X0.here hx rfl (hb hby at_8) rfl k) ?_
  show OwnGo p e below (s₁.setTop (mkF m 9 #[.val (.long x1), .second, .val (.long (86400000 : Int64)), .second, .unset, .unset, .unset, .unset, .unset, .unset, .unset, .unset, .unset, .unset, .unset, .unset] [(.long (x1 &&& (9223372036854775807 : Int64)))])) _
  refine own_back (fun t k => X0.ldc2Long hx hown (mvT hZ (hw _ (List.mem_of_getElem? (i := 2) rfl))) (g := (mkF m 9 #[.val (.long x1), .second, .val (.long (86400000 : Int64)), .second, .unset, .unset, .unset, .unset, .unset, .unset, .unset, .unset, .unset, .unset, .unset, .unset] [(.long (x1 &&& (9223372036854775807 : Int64)))])) rfl (hb hby at_9) t k) ?_
  show OwnGo p e below (s₁.setTop (mkF m 12 #[.val (.long x1), .second, .val (.long (86400000 : Int64)), .second, .unset, .unset, .unset, .unset, .unset, .unset, .unset, .unset, .unset, .unset, .unset, .unset] [(.long (253402300800000 : Int64)), (.long (x1 &&& (9223372036854775807 : Int64)))])) _
  refine own_back (fun t k => own_lrem X0 hx rfl (hb hby at_12) rfl (by decide) k) ?_
  show OwnGo p e below (s₁.setTop (mkF m 13 #[.val (.long x1), .second, .val (.long (86400000 : Int64)), .second, .unset, .unset, .unset, .unset, .unset, .unset, .unset, .unset, .unset, .unset, .unset, .unset] [(.long ((x1 &&& (9223372036854775807 : Int64)) % (253402300800000 : Int64)))])) _
  refine own_back (fun t k => XS.lstore X0.here hx rfl (hb hby at_13) rfl (l' := #[.val (.long x1), .second, .val (.long (86400000 : Int64)), .second, .val (.long ((x1 &&& (9223372036854775807 : Int64)) % (253402300800000 : Int64))), .second, .unset, .unset, .unset, .unset, .unset, .unset, .unset, .unset, .unset, .unset]) rfl k) ?_
  show OwnGo p e below (s₁.setTop (mkF m 15 #[.val (.long x1), .second, .val (.long (86400000 : Int64)), .second, .val (.long ((x1 &&& (9223372036854775807 : Int64)) % (253402300800000 : Int64))), .second, .unset, .unset, .unset, .unset, .unset, .unset, .unset, .unset, .unset, .unset] [])) _
  obtain ⟨q, hq⟩ : ∃ z : Int64, z = ((x1 &&& (9223372036854775807 : Int64)) % (253402300800000 : Int64)) := ⟨_, rfl⟩
  rw [← hq]
  show OwnGo p e below (s₁.setTop (mkF m 15 #[.val (.long x1), .second, .val (.long (86400000 : Int64)), .second, .val (.long q), .second, .unset, .unset, .unset, .unset, .unset, .unset, .unset, .unset, .unset, .unset] [])) _
  obtain ⟨hq0, hq1⟩ := own_inst x1
  rw [← hq] at hq0 hq1
  obtain ⟨hq2, hq3⟩ := own_day q hq0 hq1
  obtain ⟨_, _, ⟨T920, L920, k920, n920⟩, -, X920, hSn920, hgr920, ⟨Lc920, hQ920, l920, y920, z920, CRn920⟩, st920⟩ := callSS X0 hx (y := (⟨"com/example/sorted_set_patterns/sortedsetpatterns/Periods", "days", "()Lcom/example/sorted_set_patterns/sortedsetpatterns/Periods;"⟩ : MethodName)) hown (mvT hZ (hw _ (List.mem_of_getElem? (i := 3) rfl))) (mvT hZ (hw _ (List.mem_of_getElem? (i := 4) rfl))) (mvT hZ (hw _ (List.mem_of_getElem? (i := 5) rfl))) (mvT hZ (hw _ (List.mem_of_getElem? (i := 6) rfl))) (by decide) (own_backH (W := 0) (rm_days l Z a0 hw [] h0 n0 Z0 OL) hZ (hw _ (List.mem_of_getElem? (i := 6) rfl)) (hw _ (List.mem_of_getElem? (i := 5) rfl)) (by decide) (by decide) hEL CR0.1 sf0 all0) (g := (mkF m 15 #[.val (.long x1), .second, .val (.long (86400000 : Int64)), .second, .val (.long q), .second, .unset, .unset, .unset, .unset, .unset, .unset, .unset, .unset, .unset, .unset] [])) rfl (by rw [hml]; rfl) (argsL := []) (rest := []) (lenOf lw_pd0 rfl) rfl (by show 2 * 0 + _ ≤ _; exact Nat.le_of_eq rfl) (hb hby at_15) (fun _ _ => ⟨rfl, e0, Nat.le_of_ble_eq_true rfl, Nat.le_of_ble_eq_true rfl⟩)
  dsimp only [Pt.U, Pt.locs, Pt.cells, Pt.slots] at X920 l920 y920 z920 st920 hQ920 hSn920 hgr920 CRn920
  subst l920 y920 z920
  obtain ⟨Xr920, hSr920, hZr920, hownr920⟩ := rebS hS0 (own_hle e0 hk0) X920 hSn920 hgr920 hZ hown
  obtain ⟨ap920, ak920, rfl, N920q, E920, S920, Xe920, G0920, G1920, G2920, G3920⟩ := hQ920
  refine own_seq st920 ?_
  have N920 := Fr.app N0 N920q
  have O921 := OL.ext E920
  have KP922 := KP0.ext E920
  have Zs923 := Nat.le_trans Z0 E920.1
  have CR924 := CR0.trans CRn920
  show OwnGo p e below (T920.setTop (mkF m 18 #[.val (.long x1), .second, .val (.long (86400000 : Int64)), .second, .val (.long q), .second, .unset, .unset, .unset, .unset, .unset, .unset, .unset, .unset, .unset, .unset] [(.ref ap920)])) _
  refine own_back (fun t k => XS.astore Xr920.here hx rfl (hb hby at_18) rfl rfl (l' := #[.val (.long x1), .second, .val (.long (86400000 : Int64)), .second, .val (.long q), .second, .val (.ref ap920), .unset, .unset, .unset, .unset, .unset, .unset, .unset, .unset, .unset]) rfl k) ?_
  show OwnGo p e below (T920.setTop (mkF m 20 #[.val (.long x1), .second, .val (.long (86400000 : Int64)), .second, .val (.long q), .second, .val (.ref ap920), .unset, .unset, .unset, .unset, .unset, .unset, .unset, .unset, .unset] [])) _
  refine own_back (fun t k => XS.aload Xr920.here hx rfl (hb hby at_20) rfl rfl k) ?_
  show OwnGo p e below (T920.setTop (mkF m 22 #[.val (.long x1), .second, .val (.long (86400000 : Int64)), .second, .val (.long q), .second, .val (.ref ap920), .unset, .unset, .unset, .unset, .unset, .unset, .unset, .unset, .unset] [(.ref ap920)])) _
  refine own_back (fun t k => XS.lload Xr920.here hx rfl (hb hby at_22) rfl k) ?_
  show OwnGo p e below (T920.setTop (mkF m 24 #[.val (.long x1), .second, .val (.long (86400000 : Int64)), .second, .val (.long q), .second, .val (.ref ap920), .unset, .unset, .unset, .unset, .unset, .unset, .unset, .unset, .unset] [(.long q), (.ref ap920)])) _
  obtain ⟨cq925, kq925, q925a, q925b, q925c⟩ := isOf hZr920 rfl Xe920
  obtain ⟨_, _, ⟨T925, L925, k925, n925⟩, -, X925, ⟨Lc925, hQ925, l925, y925, z925⟩, st925⟩ := Xr920.virtualBack hx (y := (⟨"com/example/sorted_set_patterns/sortedsetpatterns/Periods", "number", "(J)J"⟩ : MethodName)) (z := (⟨"com/example/sorted_set_patterns/sortedsetpatterns/Periods", "number", "(J)J"⟩ : MethodName)) hownr920 (mvT hZr920 (hw _ (List.mem_of_getElem? (i := 32) rfl))) (mvT hZr920 (hw _ (List.mem_of_getElem? (i := 33) rfl))) (notFace_of_selects (args := #[]) (mvT hZr920 (hw _ (List.mem_of_getElem? (i := 35) rfl)))) (mvT hZr920 (hw _ (List.mem_of_getElem? (i := 35) rfl))) (mvT hZr920 (hw _ (List.mem_of_getElem? (i := 34) rfl))) (by decide) (own_backN (W := 0) (rm_num l Z a0 hw [] ap920 q T920.heap n0 Zs923 G2920 G3920 hq0 hq1) hZr920 (hw _ (List.mem_of_getElem? (i := 36) rfl)) (hw _ (List.mem_of_getElem? (i := 5) rfl)) (by decide) (by decide)) q925a q925c (g := (mkF m 24 #[.val (.long x1), .second, .val (.long (86400000 : Int64)), .second, .val (.long q), .second, .val (.ref ap920), .unset, .unset, .unset, .unset, .unset, .unset, .unset, .unset, .unset] [(.long q), (.ref ap920)])) rfl (by rw [hml]; rfl) (Steps.refl _) (argsL := [(.long q)]) (rest := []) (lenOf lw_pd1 rfl) rfl (by show 2 * 0 + _ ≤ _; exact Nat.le_of_eq rfl) (hb hby at_24) (fun _ _ => ⟨rfl, rfl, Nat.le_of_ble_eq_true rfl, Nat.le_of_ble_eq_true rfl⟩)
  dsimp only [Pt.U, Pt.locs, Pt.cells, Pt.slots] at X925 l925 y925 z925 st925 hQ925
  subst l925 y925 z925
  obtain ⟨rfl, N925q, hh925⟩ := hQ925
  refine own_seq st925 ?_
  have N925 := Fr.app N920 N925q
  show OwnGo p e below (T925.setTop (mkF m 27 #[.val (.long x1), .second, .val (.long (86400000 : Int64)), .second, .val (.long q), .second, .val (.ref ap920), .unset, .unset, .unset, .unset, .unset, .unset, .unset, .unset, .unset] [(.long (q / (86400000 : Int64)))])) _
  refine own_back (fun t k => XS.lstore X925.here hx rfl (hb hby at_27) rfl (l' := #[.val (.long x1), .second, .val (.long (86400000 : Int64)), .second, .val (.long q), .second, .val (.ref ap920), .val (.long (q / (86400000 : Int64))), .second, .unset, .unset, .unset, .unset, .unset, .unset, .unset]) rfl k) ?_
  show OwnGo p e below (T925.setTop (mkF m 29 #[.val (.long x1), .second, .val (.long (86400000 : Int64)), .second, .val (.long q), .second, .val (.ref ap920), .val (.long (q / (86400000 : Int64))), .second, .unset, .unset, .unset, .unset, .unset, .unset, .unset] [])) _
  refine own_back (fun t k => XS.aload X925.here hx rfl (hb hby at_29) rfl rfl k) ?_
  show OwnGo p e below (T925.setTop (mkF m 31 #[.val (.long x1), .second, .val (.long (86400000 : Int64)), .second, .val (.long q), .second, .val (.ref ap920), .val (.long (q / (86400000 : Int64))), .second, .unset, .unset, .unset, .unset, .unset, .unset, .unset] [(.ref ap920)])) _
  refine own_back (fun t k => XS.lload X925.here hx rfl (hb hby at_31) rfl k) ?_
  show OwnGo p e below (T925.setTop (mkF m 33 #[.val (.long x1), .second, .val (.long (86400000 : Int64)), .second, .val (.long q), .second, .val (.ref ap920), .val (.long (q / (86400000 : Int64))), .second, .unset, .unset, .unset, .unset, .unset, .unset, .unset] [(.long (q / (86400000 : Int64))), (.ref ap920)])) _
  obtain ⟨cq926, kq926, q926a, q926b, q926c⟩ := isOf hZr920 hh925 Xe920
  obtain ⟨_, _, ⟨T926, L926, k926, n926⟩, -, X926, ⟨Lc926, hQ926, l926, y926, z926⟩, st926⟩ := X925.virtualBack hx (y := (⟨"com/example/sorted_set_patterns/sortedsetpatterns/Periods", "end", "(J)J"⟩ : MethodName)) (z := (⟨"com/example/sorted_set_patterns/sortedsetpatterns/Periods", "end", "(J)J"⟩ : MethodName)) hownr920 (mvT hZr920 (hw _ (List.mem_of_getElem? (i := 38) rfl))) (mvT hZr920 (hw _ (List.mem_of_getElem? (i := 39) rfl))) (notFace_of_selects (args := #[]) (mvT hZr920 (hw _ (List.mem_of_getElem? (i := 41) rfl)))) (mvT hZr920 (hw _ (List.mem_of_getElem? (i := 41) rfl))) (mvT hZr920 (hw _ (List.mem_of_getElem? (i := 40) rfl))) (by decide) (own_backN (W := 0) (rm_pend l Z a0 hw [] ap920 (q / (86400000 : Int64)) T920.heap n0 Zs923 G2920 G3920) hZr920 (hw _ (List.mem_of_getElem? (i := 42) rfl)) (hw _ (List.mem_of_getElem? (i := 5) rfl)) (by decide) (by decide)) q926a q926c (g := (mkF m 33 #[.val (.long x1), .second, .val (.long (86400000 : Int64)), .second, .val (.long q), .second, .val (.ref ap920), .val (.long (q / (86400000 : Int64))), .second, .unset, .unset, .unset, .unset, .unset, .unset, .unset] [(.long (q / (86400000 : Int64))), (.ref ap920)])) rfl (by rw [hml]; rfl) (Steps.refl _) (argsL := [(.long (q / (86400000 : Int64)))]) (rest := []) (lenOf lw_pd1 rfl) rfl (by show 2 * 0 + _ ≤ _; exact Nat.le_of_eq rfl) (hb hby at_33) (fun _ _ => ⟨rfl, hh925, Nat.le_of_ble_eq_true rfl, Nat.le_of_ble_eq_true rfl⟩)
  dsimp only [Pt.U, Pt.locs, Pt.cells, Pt.slots] at X926 l926 y926 z926 st926 hQ926
  subst l926 y926 z926
  obtain ⟨rfl, N926q, hh926⟩ := hQ926
  refine own_seq st926 ?_
  have N926 := Fr.app N925 N926q
  show OwnGo p e below (T926.setTop (mkF m 36 #[.val (.long x1), .second, .val (.long (86400000 : Int64)), .second, .val (.long q), .second, .val (.ref ap920), .val (.long (q / (86400000 : Int64))), .second, .unset, .unset, .unset, .unset, .unset, .unset, .unset] [(.long (((q / (86400000 : Int64)) * (86400000 : Int64)) + (86400000 : Int64)))])) _
  refine own_back (fun t k => XS.lstore X926.here hx rfl (hb hby at_36) rfl (l' := #[.val (.long x1), .second, .val (.long (86400000 : Int64)), .second, .val (.long q), .second, .val (.ref ap920), .val (.long (q / (86400000 : Int64))), .second, .val (.long (((q / (86400000 : Int64)) * (86400000 : Int64)) + (86400000 : Int64))), .second, .unset, .unset, .unset, .unset, .unset]) rfl k) ?_
  show OwnGo p e below (T926.setTop (mkF m 38 #[.val (.long x1), .second, .val (.long (86400000 : Int64)), .second, .val (.long q), .second, .val (.ref ap920), .val (.long (q / (86400000 : Int64))), .second, .val (.long (((q / (86400000 : Int64)) * (86400000 : Int64)) + (86400000 : Int64))), .second, .unset, .unset, .unset, .unset, .unset] [])) _
  refine own_back (fun t k => XS.lload X926.here hx rfl (hb hby at_38) rfl k) ?_
  show OwnGo p e below (T926.setTop (mkF m 40 #[.val (.long x1), .second, .val (.long (86400000 : Int64)), .second, .val (.long q), .second, .val (.ref ap920), .val (.long (q / (86400000 : Int64))), .second, .val (.long (((q / (86400000 : Int64)) * (86400000 : Int64)) + (86400000 : Int64))), .second, .unset, .unset, .unset, .unset, .unset] [(.long (q / (86400000 : Int64)))])) _
  refine own_back (fun t k => XS.lload X926.here hx rfl (hb hby at_40) rfl k) ?_
  show OwnGo p e below (T926.setTop (mkF m 42 #[.val (.long x1), .second, .val (.long (86400000 : Int64)), .second, .val (.long q), .second, .val (.ref ap920), .val (.long (q / (86400000 : Int64))), .second, .val (.long (((q / (86400000 : Int64)) * (86400000 : Int64)) + (86400000 : Int64))), .second, .unset, .unset, .unset, .unset, .unset] [(.long q), (.long (q / (86400000 : Int64)))])) _
  refine own_back (fun t k => XS.lloadN X926.here hx rfl (hb hby at_42) rfl k) ?_
  show OwnGo p e below (T926.setTop (mkF m 43 #[.val (.long x1), .second, .val (.long (86400000 : Int64)), .second, .val (.long q), .second, .val (.ref ap920), .val (.long (q / (86400000 : Int64))), .second, .val (.long (((q / (86400000 : Int64)) * (86400000 : Int64)) + (86400000 : Int64))), .second, .unset, .unset, .unset, .unset, .unset] [(.long (86400000 : Int64)), (.long q), (.long (q / (86400000 : Int64)))])) _
  refine own_back (fun t k => XS.ldiv X926.here hx rfl (hb hby at_43) rfl (by decide) k) ?_
  show OwnGo p e below (T926.setTop (mkF m 44 #[.val (.long x1), .second, .val (.long (86400000 : Int64)), .second, .val (.long q), .second, .val (.ref ap920), .val (.long (q / (86400000 : Int64))), .second, .val (.long (((q / (86400000 : Int64)) * (86400000 : Int64)) + (86400000 : Int64))), .second, .unset, .unset, .unset, .unset, .unset] [(.long (q / (86400000 : Int64))), (.long (q / (86400000 : Int64)))])) _
  refine own_back (fun t k => XT.lcmp X926.here hx rfl (hb hby at_44) rfl k) ?_
  show OwnGo p e below (T926.setTop (mkF m 45 #[.val (.long x1), .second, .val (.long (86400000 : Int64)), .second, .val (.long q), .second, .val (.ref ap920), .val (.long (q / (86400000 : Int64))), .second, .val (.long (((q / (86400000 : Int64)) * (86400000 : Int64)) + (86400000 : Int64))), .second, .unset, .unset, .unset, .unset, .unset] [(.int (XT.cmpL (q / (86400000 : Int64)) (q / (86400000 : Int64))))])) _
  refine own_back (fun t k => XS.ifNo X926.here hx rfl (hb hby at_45) rfl (Jvm.Free.XT.ll_ne_f rfl) k) ?_
  show OwnGo p e below (T926.setTop (mkF m 48 #[.val (.long x1), .second, .val (.long (86400000 : Int64)), .second, .val (.long q), .second, .val (.ref ap920), .val (.long (q / (86400000 : Int64))), .second, .val (.long (((q / (86400000 : Int64)) * (86400000 : Int64)) + (86400000 : Int64))), .second, .unset, .unset, .unset, .unset, .unset] [])) _
  refine own_back (fun t k => XS.iconst X926.here hx rfl (hb hby at_48) k) ?_
  show OwnGo p e below (T926.setTop (mkF m 49 #[.val (.long x1), .second, .val (.long (86400000 : Int64)), .second, .val (.long q), .second, .val (.ref ap920), .val (.long (q / (86400000 : Int64))), .second, .val (.long (((q / (86400000 : Int64)) * (86400000 : Int64)) + (86400000 : Int64))), .second, .unset, .unset, .unset, .unset, .unset] [(.int (1 : Int32))])) _
  refine own_back (fun t k => XS.goto X926.here hx rfl (pc0 := 49) (pc' := 53) rfl (hb hby at_49) (by decide) (by decide) k) ?_
  show OwnGo p e below (T926.setTop (mkF m 53 #[.val (.long x1), .second, .val (.long (86400000 : Int64)), .second, .val (.long q), .second, .val (.ref ap920), .val (.long (q / (86400000 : Int64))), .second, .val (.long (((q / (86400000 : Int64)) * (86400000 : Int64)) + (86400000 : Int64))), .second, .unset, .unset, .unset, .unset, .unset] [(.int (1 : Int32))])) _
  refine own_back (fun t k => XS.istore X926.here hx rfl (hb hby at_53) rfl (l' := #[.val (.long x1), .second, .val (.long (86400000 : Int64)), .second, .val (.long q), .second, .val (.ref ap920), .val (.long (q / (86400000 : Int64))), .second, .val (.long (((q / (86400000 : Int64)) * (86400000 : Int64)) + (86400000 : Int64))), .second, .val (.int (1 : Int32)), .unset, .unset, .unset, .unset]) rfl k) ?_
  show OwnGo p e below (T926.setTop (mkF m 55 #[.val (.long x1), .second, .val (.long (86400000 : Int64)), .second, .val (.long q), .second, .val (.ref ap920), .val (.long (q / (86400000 : Int64))), .second, .val (.long (((q / (86400000 : Int64)) * (86400000 : Int64)) + (86400000 : Int64))), .second, .val (.int (1 : Int32)), .unset, .unset, .unset, .unset] [])) _
  refine own_back (fun t k => XS.lload X926.here hx rfl (hb hby at_55) rfl k) ?_
  show OwnGo p e below (T926.setTop (mkF m 57 #[.val (.long x1), .second, .val (.long (86400000 : Int64)), .second, .val (.long q), .second, .val (.ref ap920), .val (.long (q / (86400000 : Int64))), .second, .val (.long (((q / (86400000 : Int64)) * (86400000 : Int64)) + (86400000 : Int64))), .second, .val (.int (1 : Int32)), .unset, .unset, .unset, .unset] [(.long (((q / (86400000 : Int64)) * (86400000 : Int64)) + (86400000 : Int64)))])) _
  refine own_back (fun t k => XS.lload X926.here hx rfl (hb hby at_57) rfl k) ?_
  show OwnGo p e below (T926.setTop (mkF m 59 #[.val (.long x1), .second, .val (.long (86400000 : Int64)), .second, .val (.long q), .second, .val (.ref ap920), .val (.long (q / (86400000 : Int64))), .second, .val (.long (((q / (86400000 : Int64)) * (86400000 : Int64)) + (86400000 : Int64))), .second, .val (.int (1 : Int32)), .unset, .unset, .unset, .unset] [(.long (q / (86400000 : Int64))), (.long (((q / (86400000 : Int64)) * (86400000 : Int64)) + (86400000 : Int64)))])) _
  refine own_back (fun t k => XS.lloadN X926.here hx rfl (hb hby at_59) rfl k) ?_
  show OwnGo p e below (T926.setTop (mkF m 60 #[.val (.long x1), .second, .val (.long (86400000 : Int64)), .second, .val (.long q), .second, .val (.ref ap920), .val (.long (q / (86400000 : Int64))), .second, .val (.long (((q / (86400000 : Int64)) * (86400000 : Int64)) + (86400000 : Int64))), .second, .val (.int (1 : Int32)), .unset, .unset, .unset, .unset] [(.long (86400000 : Int64)), (.long (q / (86400000 : Int64))), (.long (((q / (86400000 : Int64)) * (86400000 : Int64)) + (86400000 : Int64)))])) _
  refine own_back (fun t k => XS.lmul X926.here hx rfl (hb hby at_60) rfl k) ?_
  show OwnGo p e below (T926.setTop (mkF m 61 #[.val (.long x1), .second, .val (.long (86400000 : Int64)), .second, .val (.long q), .second, .val (.ref ap920), .val (.long (q / (86400000 : Int64))), .second, .val (.long (((q / (86400000 : Int64)) * (86400000 : Int64)) + (86400000 : Int64))), .second, .val (.int (1 : Int32)), .unset, .unset, .unset, .unset] [(.long ((q / (86400000 : Int64)) * (86400000 : Int64))), (.long (((q / (86400000 : Int64)) * (86400000 : Int64)) + (86400000 : Int64)))])) _
  refine own_back (fun t k => XS.lloadN X926.here hx rfl (hb hby at_61) rfl k) ?_
  show OwnGo p e below (T926.setTop (mkF m 62 #[.val (.long x1), .second, .val (.long (86400000 : Int64)), .second, .val (.long q), .second, .val (.ref ap920), .val (.long (q / (86400000 : Int64))), .second, .val (.long (((q / (86400000 : Int64)) * (86400000 : Int64)) + (86400000 : Int64))), .second, .val (.int (1 : Int32)), .unset, .unset, .unset, .unset] [(.long (86400000 : Int64)), (.long ((q / (86400000 : Int64)) * (86400000 : Int64))), (.long (((q / (86400000 : Int64)) * (86400000 : Int64)) + (86400000 : Int64)))])) _
  refine own_back (fun t k => XS.ladd X926.here hx rfl (hb hby at_62) rfl k) ?_
  show OwnGo p e below (T926.setTop (mkF m 63 #[.val (.long x1), .second, .val (.long (86400000 : Int64)), .second, .val (.long q), .second, .val (.ref ap920), .val (.long (q / (86400000 : Int64))), .second, .val (.long (((q / (86400000 : Int64)) * (86400000 : Int64)) + (86400000 : Int64))), .second, .val (.int (1 : Int32)), .unset, .unset, .unset, .unset] [(.long (((q / (86400000 : Int64)) * (86400000 : Int64)) + (86400000 : Int64))), (.long (((q / (86400000 : Int64)) * (86400000 : Int64)) + (86400000 : Int64)))])) _
  refine own_back (fun t k => XT.lcmp X926.here hx rfl (hb hby at_63) rfl k) ?_
  show OwnGo p e below (T926.setTop (mkF m 64 #[.val (.long x1), .second, .val (.long (86400000 : Int64)), .second, .val (.long q), .second, .val (.ref ap920), .val (.long (q / (86400000 : Int64))), .second, .val (.long (((q / (86400000 : Int64)) * (86400000 : Int64)) + (86400000 : Int64))), .second, .val (.int (1 : Int32)), .unset, .unset, .unset, .unset] [(.int (XT.cmpL (((q / (86400000 : Int64)) * (86400000 : Int64)) + (86400000 : Int64)) (((q / (86400000 : Int64)) * (86400000 : Int64)) + (86400000 : Int64))))])) _
  refine own_back (fun t k => XS.ifNo X926.here hx rfl (hb hby at_64) rfl (Jvm.Free.XT.ll_ne_f rfl) k) ?_
  show OwnGo p e below (T926.setTop (mkF m 67 #[.val (.long x1), .second, .val (.long (86400000 : Int64)), .second, .val (.long q), .second, .val (.ref ap920), .val (.long (q / (86400000 : Int64))), .second, .val (.long (((q / (86400000 : Int64)) * (86400000 : Int64)) + (86400000 : Int64))), .second, .val (.int (1 : Int32)), .unset, .unset, .unset, .unset] [])) _
  refine own_back (fun t k => XS.iconst X926.here hx rfl (hb hby at_67) k) ?_
  show OwnGo p e below (T926.setTop (mkF m 68 #[.val (.long x1), .second, .val (.long (86400000 : Int64)), .second, .val (.long q), .second, .val (.ref ap920), .val (.long (q / (86400000 : Int64))), .second, .val (.long (((q / (86400000 : Int64)) * (86400000 : Int64)) + (86400000 : Int64))), .second, .val (.int (1 : Int32)), .unset, .unset, .unset, .unset] [(.int (1 : Int32))])) _
  refine own_back (fun t k => XS.goto X926.here hx rfl (pc0 := 68) (pc' := 72) rfl (hb hby at_68) (by decide) (by decide) k) ?_
  show OwnGo p e below (T926.setTop (mkF m 72 #[.val (.long x1), .second, .val (.long (86400000 : Int64)), .second, .val (.long q), .second, .val (.ref ap920), .val (.long (q / (86400000 : Int64))), .second, .val (.long (((q / (86400000 : Int64)) * (86400000 : Int64)) + (86400000 : Int64))), .second, .val (.int (1 : Int32)), .unset, .unset, .unset, .unset] [(.int (1 : Int32))])) _
  refine own_back (fun t k => XS.istore X926.here hx rfl (hb hby at_72) rfl (l' := #[.val (.long x1), .second, .val (.long (86400000 : Int64)), .second, .val (.long q), .second, .val (.ref ap920), .val (.long (q / (86400000 : Int64))), .second, .val (.long (((q / (86400000 : Int64)) * (86400000 : Int64)) + (86400000 : Int64))), .second, .val (.int (1 : Int32)), .val (.int (1 : Int32)), .unset, .unset, .unset]) rfl k) ?_
  show OwnGo p e below (T926.setTop (mkF m 74 #[.val (.long x1), .second, .val (.long (86400000 : Int64)), .second, .val (.long q), .second, .val (.ref ap920), .val (.long (q / (86400000 : Int64))), .second, .val (.long (((q / (86400000 : Int64)) * (86400000 : Int64)) + (86400000 : Int64))), .second, .val (.int (1 : Int32)), .val (.int (1 : Int32)), .unset, .unset, .unset] [])) _
  refine own_back (fun t k => XS.lload X926.here hx rfl (hb hby at_74) rfl k) ?_
  show OwnGo p e below (T926.setTop (mkF m 76 #[.val (.long x1), .second, .val (.long (86400000 : Int64)), .second, .val (.long q), .second, .val (.ref ap920), .val (.long (q / (86400000 : Int64))), .second, .val (.long (((q / (86400000 : Int64)) * (86400000 : Int64)) + (86400000 : Int64))), .second, .val (.int (1 : Int32)), .val (.int (1 : Int32)), .unset, .unset, .unset] [(.long (((q / (86400000 : Int64)) * (86400000 : Int64)) + (86400000 : Int64)))])) _
  refine own_back (fun t k => XS.lloadN X926.here hx rfl (hb hby at_76) rfl k) ?_
  show OwnGo p e below (T926.setTop (mkF m 77 #[.val (.long x1), .second, .val (.long (86400000 : Int64)), .second, .val (.long q), .second, .val (.ref ap920), .val (.long (q / (86400000 : Int64))), .second, .val (.long (((q / (86400000 : Int64)) * (86400000 : Int64)) + (86400000 : Int64))), .second, .val (.int (1 : Int32)), .val (.int (1 : Int32)), .unset, .unset, .unset] [(.long (86400000 : Int64)), (.long (((q / (86400000 : Int64)) * (86400000 : Int64)) + (86400000 : Int64)))])) _
  refine own_back (fun t k => XS.lsub X926.here hx rfl (hb hby at_77) rfl k) ?_
  show OwnGo p e below (T926.setTop (mkF m 78 #[.val (.long x1), .second, .val (.long (86400000 : Int64)), .second, .val (.long q), .second, .val (.ref ap920), .val (.long (q / (86400000 : Int64))), .second, .val (.long (((q / (86400000 : Int64)) * (86400000 : Int64)) + (86400000 : Int64))), .second, .val (.int (1 : Int32)), .val (.int (1 : Int32)), .unset, .unset, .unset] [(.long ((((q / (86400000 : Int64)) * (86400000 : Int64)) + (86400000 : Int64)) - (86400000 : Int64)))])) _
  refine own_back (fun t k => XS.lload X926.here hx rfl (hb hby at_78) rfl k) ?_
  show OwnGo p e below (T926.setTop (mkF m 80 #[.val (.long x1), .second, .val (.long (86400000 : Int64)), .second, .val (.long q), .second, .val (.ref ap920), .val (.long (q / (86400000 : Int64))), .second, .val (.long (((q / (86400000 : Int64)) * (86400000 : Int64)) + (86400000 : Int64))), .second, .val (.int (1 : Int32)), .val (.int (1 : Int32)), .unset, .unset, .unset] [(.long q), (.long ((((q / (86400000 : Int64)) * (86400000 : Int64)) + (86400000 : Int64)) - (86400000 : Int64)))])) _
  refine own_back (fun t k => XT.lcmp X926.here hx rfl (hb hby at_80) rfl k) ?_
  show OwnGo p e below (T926.setTop (mkF m 81 #[.val (.long x1), .second, .val (.long (86400000 : Int64)), .second, .val (.long q), .second, .val (.ref ap920), .val (.long (q / (86400000 : Int64))), .second, .val (.long (((q / (86400000 : Int64)) * (86400000 : Int64)) + (86400000 : Int64))), .second, .val (.int (1 : Int32)), .val (.int (1 : Int32)), .unset, .unset, .unset] [(.int (XT.cmpL ((((q / (86400000 : Int64)) * (86400000 : Int64)) + (86400000 : Int64)) - (86400000 : Int64)) q))])) _
  refine own_back (fun t k => XS.ifNo X926.here hx rfl (hb hby at_81) rfl (Jvm.Free.XT.ll_gt_f hq2) k) ?_
  show OwnGo p e below (T926.setTop (mkF m 84 #[.val (.long x1), .second, .val (.long (86400000 : Int64)), .second, .val (.long q), .second, .val (.ref ap920), .val (.long (q / (86400000 : Int64))), .second, .val (.long (((q / (86400000 : Int64)) * (86400000 : Int64)) + (86400000 : Int64))), .second, .val (.int (1 : Int32)), .val (.int (1 : Int32)), .unset, .unset, .unset] [])) _
  refine own_back (fun t k => XS.lload X926.here hx rfl (hb hby at_84) rfl k) ?_
  show OwnGo p e below (T926.setTop (mkF m 86 #[.val (.long x1), .second, .val (.long (86400000 : Int64)), .second, .val (.long q), .second, .val (.ref ap920), .val (.long (q / (86400000 : Int64))), .second, .val (.long (((q / (86400000 : Int64)) * (86400000 : Int64)) + (86400000 : Int64))), .second, .val (.int (1 : Int32)), .val (.int (1 : Int32)), .unset, .unset, .unset] [(.long q)])) _
  refine own_back (fun t k => XS.lload X926.here hx rfl (hb hby at_86) rfl k) ?_
  show OwnGo p e below (T926.setTop (mkF m 88 #[.val (.long x1), .second, .val (.long (86400000 : Int64)), .second, .val (.long q), .second, .val (.ref ap920), .val (.long (q / (86400000 : Int64))), .second, .val (.long (((q / (86400000 : Int64)) * (86400000 : Int64)) + (86400000 : Int64))), .second, .val (.int (1 : Int32)), .val (.int (1 : Int32)), .unset, .unset, .unset] [(.long (((q / (86400000 : Int64)) * (86400000 : Int64)) + (86400000 : Int64))), (.long q)])) _
  refine own_back (fun t k => XT.lcmp X926.here hx rfl (hb hby at_88) rfl k) ?_
  show OwnGo p e below (T926.setTop (mkF m 89 #[.val (.long x1), .second, .val (.long (86400000 : Int64)), .second, .val (.long q), .second, .val (.ref ap920), .val (.long (q / (86400000 : Int64))), .second, .val (.long (((q / (86400000 : Int64)) * (86400000 : Int64)) + (86400000 : Int64))), .second, .val (.int (1 : Int32)), .val (.int (1 : Int32)), .unset, .unset, .unset] [(.int (XT.cmpL q (((q / (86400000 : Int64)) * (86400000 : Int64)) + (86400000 : Int64))))])) _
  refine own_back (fun t k => XS.ifNo X926.here hx rfl (hb hby at_89) rfl (Jvm.Free.XT.ll_ge_f hq3) k) ?_
  show OwnGo p e below (T926.setTop (mkF m 92 #[.val (.long x1), .second, .val (.long (86400000 : Int64)), .second, .val (.long q), .second, .val (.ref ap920), .val (.long (q / (86400000 : Int64))), .second, .val (.long (((q / (86400000 : Int64)) * (86400000 : Int64)) + (86400000 : Int64))), .second, .val (.int (1 : Int32)), .val (.int (1 : Int32)), .unset, .unset, .unset] [])) _
  refine own_back (fun t k => XS.iconst X926.here hx rfl (hb hby at_92) k) ?_
  show OwnGo p e below (T926.setTop (mkF m 93 #[.val (.long x1), .second, .val (.long (86400000 : Int64)), .second, .val (.long q), .second, .val (.ref ap920), .val (.long (q / (86400000 : Int64))), .second, .val (.long (((q / (86400000 : Int64)) * (86400000 : Int64)) + (86400000 : Int64))), .second, .val (.int (1 : Int32)), .val (.int (1 : Int32)), .unset, .unset, .unset] [(.int (1 : Int32))])) _
  refine own_back (fun t k => XS.goto X926.here hx rfl (pc0 := 93) (pc' := 97) rfl (hb hby at_93) (by decide) (by decide) k) ?_
  show OwnGo p e below (T926.setTop (mkF m 97 #[.val (.long x1), .second, .val (.long (86400000 : Int64)), .second, .val (.long q), .second, .val (.ref ap920), .val (.long (q / (86400000 : Int64))), .second, .val (.long (((q / (86400000 : Int64)) * (86400000 : Int64)) + (86400000 : Int64))), .second, .val (.int (1 : Int32)), .val (.int (1 : Int32)), .unset, .unset, .unset] [(.int (1 : Int32))])) _
  refine own_back (fun t k => XS.istore X926.here hx rfl (hb hby at_97) rfl (l' := #[.val (.long x1), .second, .val (.long (86400000 : Int64)), .second, .val (.long q), .second, .val (.ref ap920), .val (.long (q / (86400000 : Int64))), .second, .val (.long (((q / (86400000 : Int64)) * (86400000 : Int64)) + (86400000 : Int64))), .second, .val (.int (1 : Int32)), .val (.int (1 : Int32)), .val (.int (1 : Int32)), .unset, .unset]) rfl k) ?_
  show OwnGo p e below (T926.setTop (mkF m 99 #[.val (.long x1), .second, .val (.long (86400000 : Int64)), .second, .val (.long q), .second, .val (.ref ap920), .val (.long (q / (86400000 : Int64))), .second, .val (.long (((q / (86400000 : Int64)) * (86400000 : Int64)) + (86400000 : Int64))), .second, .val (.int (1 : Int32)), .val (.int (1 : Int32)), .val (.int (1 : Int32)), .unset, .unset] [])) _
  obtain ⟨a927, T927, h927, k1927, t927, kb927, X927, e927, E927, hS927, hk927, hZ927, hown927, EX927, FC927, FV927, AV927, la927, lb927, CRl927, hLit927, sx927, st927⟩ := ldcCH X926 hx hZr920 hownr920 (hw _ (List.mem_of_getElem? (i := 43) rfl)) (own_wS hw) hh926 hSr920 (Nat.le_refl _) hEL (List.mem_of_getElem? (i := 3) rfl) CR924.1 (vs := [(.int 100), (.int 97), (.int 121), (.int 115)]) (z := 4) ⟨by decide, by decide⟩ (by decide) (by decide) (g := (mkF m 99 #[.val (.long x1), .second, .val (.long (86400000 : Int64)), .second, .val (.long q), .second, .val (.ref ap920), .val (.long (q / (86400000 : Int64))), .second, .val (.long (((q / (86400000 : Int64)) * (86400000 : Int64)) + (86400000 : Int64))), .second, .val (.int (1 : Int32)), .val (.int (1 : Int32)), .val (.int (1 : Int32)), .unset, .unset] [])) rfl (hb hby at_99) (n := 16) (Nat.le_of_ble_eq_true rfl) (by decide) (Nat.le_of_ble_eq_true rfl) (Nat.le_of_ble_eq_true rfl)
  have O928 := O921.ext E927
  have KP929 := KP922.ext E927
  have Zs930 := Nat.le_trans Zs923 E927.1
  have CR931 := CR924.trans CRl927
  have f932 := Xe920.ext E927
  have f933 := S920.ext E927
  have f934 := G0920.ext E927
  have f935 := G1920.ext E927
  have f936 := G2920.ext E927
  have f937 := G3920.ext E927
  refine own_back st927 ?_
  show OwnGo p e below (T927.setTop (mkF m 101 #[.val (.long x1), .second, .val (.long (86400000 : Int64)), .second, .val (.long q), .second, .val (.ref ap920), .val (.long (q / (86400000 : Int64))), .second, .val (.long (((q / (86400000 : Int64)) * (86400000 : Int64)) + (86400000 : Int64))), .second, .val (.int (1 : Int32)), .val (.int (1 : Int32)), .val (.int (1 : Int32)), .unset, .unset] [(.ref a927)])) _
  refine own_back (fun t k => XS.aload X927.here hx rfl (hb hby at_101) rfl rfl k) ?_
  show OwnGo p e below (T927.setTop (mkF m 103 #[.val (.long x1), .second, .val (.long (86400000 : Int64)), .second, .val (.long q), .second, .val (.ref ap920), .val (.long (q / (86400000 : Int64))), .second, .val (.long (((q / (86400000 : Int64)) * (86400000 : Int64)) + (86400000 : Int64))), .second, .val (.int (1 : Int32)), .val (.int (1 : Int32)), .val (.int (1 : Int32)), .unset, .unset] [(.ref ap920), (.ref a927)])) _
  have LS938 : OwnStr Z h927 a927 [100, 97, 121, 115] := ⟨t927, _, EX927, FC927, FV927, AV927, Nat.le_of_ble_eq_true rfl⟩
  obtain ⟨cq939, kq939, q939a, q939b, q939c⟩ := isOf hZ927 e927 f932
  obtain ⟨_, _, ⟨T939, L939, k939, n939⟩, -, X939, hSn939, hgr939, ⟨Lc939, hQ939, l939, y939, z939, CRn939⟩, st939⟩ := X927.virtualBackS hx (y := (⟨"com/example/sorted_set_patterns/sortedsetpatterns/Periods", "toString", "()Ljava/lang/String;"⟩ : MethodName)) (z := (⟨"com/example/sorted_set_patterns/sortedsetpatterns/Periods", "toString", "()Ljava/lang/String;"⟩ : MethodName)) hown927 (mvT hZ927 (hw _ (List.mem_of_getElem? (i := 44) rfl))) (mvT hZ927 (hw _ (List.mem_of_getElem? (i := 45) rfl))) (notFace_of_selects (args := #[]) (mvT hZ927 (hw _ (List.mem_of_getElem? (i := 47) rfl)))) (mvT hZ927 (hw _ (List.mem_of_getElem? (i := 47) rfl))) (mvT hZ927 (hw _ (List.mem_of_getElem? (i := 46) rfl))) (by decide) (own_backH (W := 1) (rm_pts l Z a0 hw [] ap920 h927 n0 Zs930 O928 f932 f935) hZ927 (hw _ (List.mem_of_getElem? (i := 48) rfl)) (hw _ (List.mem_of_getElem? (i := 5) rfl)) (by decide) (by decide) hEL CR931.1 sf0 all0) q939a q939c (g := (mkF m 103 #[.val (.long x1), .second, .val (.long (86400000 : Int64)), .second, .val (.long q), .second, .val (.ref ap920), .val (.long (q / (86400000 : Int64))), .second, .val (.long (((q / (86400000 : Int64)) * (86400000 : Int64)) + (86400000 : Int64))), .second, .val (.int (1 : Int32)), .val (.int (1 : Int32)), .val (.int (1 : Int32)), .unset, .unset] [(.ref ap920), (.ref a927)])) rfl (by rw [hml]; rfl) (Steps.refl _) (argsL := []) (rest := [(.ref a927)]) (lenOf lw_pd2 rfl) rfl (by show 2 * 0 + _ ≤ _; exact Nat.le_of_eq rfl) (hb hby at_103) (fun _ _ => ⟨rfl, e927, Nat.le_of_ble_eq_true rfl, Nat.le_of_ble_eq_true rfl⟩)
  dsimp only [Pt.U, Pt.locs, Pt.cells, Pt.slots] at X939 l939 y939 z939 st939 hQ939 hSn939 hgr939 CRn939
  subst l939 y939 z939
  obtain ⟨Xr939, hSr939, hZr939, hownr939⟩ := rebS hS927 (own_hle e927 hk927) X939 hSn939 hgr939 hZ927 hown927
  obtain ⟨ar939, rfl, N939q, E939, R939⟩ := hQ939
  refine own_seq st939 ?_
  have N939 := Fr.app N926 N939q
  have O940 := O928.ext E939
  have KP941 := KP929.ext E939
  have Zs942 := Nat.le_trans Zs930 E939.1
  have CR943 := CR931.trans CRn939
  have f944 := f932.ext E939
  have f945 := f933.ext E939
  have f946 := f934.ext E939
  have f947 := f935.ext E939
  have f948 := f936.ext E939
  have f949 := f937.ext E939
  have f950 := LS938.ext E939
  show OwnGo p e below (T939.setTop (mkF m 106 #[.val (.long x1), .second, .val (.long (86400000 : Int64)), .second, .val (.long q), .second, .val (.ref ap920), .val (.long (q / (86400000 : Int64))), .second, .val (.long (((q / (86400000 : Int64)) * (86400000 : Int64)) + (86400000 : Int64))), .second, .val (.int (1 : Int32)), .val (.int (1 : Int32)), .val (.int (1 : Int32)), .unset, .unset] [(.ref ar939), (.ref a927)])) _
  obtain ⟨cq951, kq951, q951a, q951b, q951c⟩ := isOf hZr939 rfl (OwnStr.exa f950)
  obtain ⟨_, _, ⟨T951, L951, k951, n951⟩, -, X951, ⟨Lc951, hQ951, l951, y951, z951⟩, st951⟩ := Xr939.virtualBack hx (y := (⟨"java/lang/String", "equals", "(Ljava/lang/Object;)Z"⟩ : MethodName)) (z := (⟨"java/lang/String", "equals", "(Ljava/lang/Object;)Z"⟩ : MethodName)) hownr939 (mvT hZr939 (hw _ (List.mem_of_getElem? (i := 50) rfl))) (mvT hZr939 (hw _ (List.mem_of_getElem? (i := 51) rfl))) (notFace_of_selects (args := #[]) (mvT hZr939 (hw _ (List.mem_of_getElem? (i := 53) rfl)))) (mvT hZr939 (hw _ (List.mem_of_getElem? (i := 53) rfl))) (mvT hZr939 (hw _ (List.mem_of_getElem? (i := 52) rfl))) (by decide) (own_backN (W := 0) (rm_seq l Z a0 hw [] a927 ar939 [100, 97, 121, 115] [100, 97, 121, 115] cz T939.heap n0 Zs942 O940 f950 R939 SC hcz) hZr939 (hw _ (List.mem_of_getElem? (i := 54) rfl)) (hw _ (List.mem_of_getElem? (i := 10) rfl)) (by decide) (by decide)) q951a q951c (g := (mkF m 106 #[.val (.long x1), .second, .val (.long (86400000 : Int64)), .second, .val (.long q), .second, .val (.ref ap920), .val (.long (q / (86400000 : Int64))), .second, .val (.long (((q / (86400000 : Int64)) * (86400000 : Int64)) + (86400000 : Int64))), .second, .val (.int (1 : Int32)), .val (.int (1 : Int32)), .val (.int (1 : Int32)), .unset, .unset] [(.ref ar939), (.ref a927)])) rfl (by rw [hml]; rfl) (Steps.refl _) (argsL := [(.ref ar939)]) (rest := []) (lenOf lw_pd3 rfl) rfl (by show 2 * 0 + _ ≤ _; exact Nat.le_of_eq rfl) (hb hby at_106) (fun _ _ => ⟨rfl, rfl, Nat.le_of_ble_eq_true rfl, Nat.le_of_ble_eq_true rfl⟩)
  dsimp only [Pt.U, Pt.locs, Pt.cells, Pt.slots] at X951 l951 y951 z951 st951 hQ951
  subst l951 y951 z951
  rw [if_pos rfl] at hQ951
  obtain ⟨rfl, N951q, hh951⟩ := hQ951
  refine own_seq st951 ?_
  have N951 := Fr.app N939 N951q
  show OwnGo p e below (T951.setTop (mkF m 109 #[.val (.long x1), .second, .val (.long (86400000 : Int64)), .second, .val (.long q), .second, .val (.ref ap920), .val (.long (q / (86400000 : Int64))), .second, .val (.long (((q / (86400000 : Int64)) * (86400000 : Int64)) + (86400000 : Int64))), .second, .val (.int (1 : Int32)), .val (.int (1 : Int32)), .val (.int (1 : Int32)), .unset, .unset] [(.int (1 : Int32))])) _
  refine own_back (fun t k => XS.istore X951.here hx rfl (hb hby at_109) rfl (l' := #[.val (.long x1), .second, .val (.long (86400000 : Int64)), .second, .val (.long q), .second, .val (.ref ap920), .val (.long (q / (86400000 : Int64))), .second, .val (.long (((q / (86400000 : Int64)) * (86400000 : Int64)) + (86400000 : Int64))), .second, .val (.int (1 : Int32)), .val (.int (1 : Int32)), .val (.int (1 : Int32)), .val (.int (1 : Int32)), .unset]) rfl k) ?_
  show OwnGo p e below (T951.setTop (mkF m 111 #[.val (.long x1), .second, .val (.long (86400000 : Int64)), .second, .val (.long q), .second, .val (.ref ap920), .val (.long (q / (86400000 : Int64))), .second, .val (.long (((q / (86400000 : Int64)) * (86400000 : Int64)) + (86400000 : Int64))), .second, .val (.int (1 : Int32)), .val (.int (1 : Int32)), .val (.int (1 : Int32)), .val (.int (1 : Int32)), .unset] [])) _
  obtain ⟨a952, T952, h952, k1952, t952, kb952, X952, e952, E952, hS952, hk952, hZ952, hown952, EX952, FC952, FV952, AV952, la952, lb952, CRl952, hLit952, sx952, st952⟩ := ldcCH X951 hx hZr939 hownr939 (hw _ (List.mem_of_getElem? (i := 55) rfl)) (own_wS hw) hh951 hSr939 (Nat.le_refl _) hEL (List.mem_of_getElem? (i := 4) rfl) CR943.1 (vs := [(.int 100), (.int 97), (.int 121), (.int 58), (.int 49), (.int 57), (.int 55), (.int 48), (.int 45), (.int 48), (.int 49), (.int 45), (.int 48), (.int 49)]) (z := 14) ⟨by decide, by decide⟩ (by decide) (by decide) (g := (mkF m 111 #[.val (.long x1), .second, .val (.long (86400000 : Int64)), .second, .val (.long q), .second, .val (.ref ap920), .val (.long (q / (86400000 : Int64))), .second, .val (.long (((q / (86400000 : Int64)) * (86400000 : Int64)) + (86400000 : Int64))), .second, .val (.int (1 : Int32)), .val (.int (1 : Int32)), .val (.int (1 : Int32)), .val (.int (1 : Int32)), .unset] [])) rfl (hb hby at_111) (n := 56) (Nat.le_of_ble_eq_true rfl) (by decide) (Nat.le_of_ble_eq_true rfl) (Nat.le_of_ble_eq_true rfl)
  have O953 := O940.ext E952
  have KP954 := KP941.ext E952
  have Zs955 := Nat.le_trans Zs942 E952.1
  have CR956 := CR943.trans CRl952
  have f957 := f944.ext E952
  have f958 := f945.ext E952
  have f959 := f946.ext E952
  have f960 := f947.ext E952
  have f961 := f948.ext E952
  have f962 := f949.ext E952
  have f963 := f950.ext E952
  have f964 := R939.ext E952
  refine own_back st952 ?_
  show OwnGo p e below (T952.setTop (mkF m 113 #[.val (.long x1), .second, .val (.long (86400000 : Int64)), .second, .val (.long q), .second, .val (.ref ap920), .val (.long (q / (86400000 : Int64))), .second, .val (.long (((q / (86400000 : Int64)) * (86400000 : Int64)) + (86400000 : Int64))), .second, .val (.int (1 : Int32)), .val (.int (1 : Int32)), .val (.int (1 : Int32)), .val (.int (1 : Int32)), .unset] [(.ref a952)])) _
  refine own_back (fun t k => XS.aload X952.here hx rfl (hb hby at_113) rfl rfl k) ?_
  show OwnGo p e below (T952.setTop (mkF m 115 #[.val (.long x1), .second, .val (.long (86400000 : Int64)), .second, .val (.long q), .second, .val (.ref ap920), .val (.long (q / (86400000 : Int64))), .second, .val (.long (((q / (86400000 : Int64)) * (86400000 : Int64)) + (86400000 : Int64))), .second, .val (.int (1 : Int32)), .val (.int (1 : Int32)), .val (.int (1 : Int32)), .val (.int (1 : Int32)), .unset] [(.ref ap920), (.ref a952)])) _
  refine own_back (fun t k => XS.lconst X952.here hx rfl (hb hby at_115) k) ?_
  show OwnGo p e below (T952.setTop (mkF m 116 #[.val (.long x1), .second, .val (.long (86400000 : Int64)), .second, .val (.long q), .second, .val (.ref ap920), .val (.long (q / (86400000 : Int64))), .second, .val (.long (((q / (86400000 : Int64)) * (86400000 : Int64)) + (86400000 : Int64))), .second, .val (.int (1 : Int32)), .val (.int (1 : Int32)), .val (.int (1 : Int32)), .val (.int (1 : Int32)), .unset] [(.long (0 : Int64)), (.ref ap920), (.ref a952)])) _
  have LS965 : OwnStr Z h952 a952 [100, 97, 121, 58, 49, 57, 55, 48, 45, 48, 49, 45, 48, 49] := ⟨t952, _, EX952, FC952, FV952, AV952, Nat.le_of_ble_eq_true rfl⟩
  obtain ⟨cq966, kq966, q966a, q966b, q966c⟩ := isOf hZ952 e952 f957
  obtain ⟨_, _, ⟨T966, L966, k966, n966⟩, -, X966, hSn966, hgr966, ⟨Lc966, hQ966, l966, y966, z966, CRn966⟩, st966⟩ := X952.virtualBackS hx (y := (⟨"com/example/sorted_set_patterns/sortedsetpatterns/Periods", "name", "(J)Ljava/lang/String;"⟩ : MethodName)) (z := (⟨"com/example/sorted_set_patterns/sortedsetpatterns/Periods", "name", "(J)Ljava/lang/String;"⟩ : MethodName)) hown952 (mvT hZ952 (hw _ (List.mem_of_getElem? (i := 56) rfl))) (mvT hZ952 (hw _ (List.mem_of_getElem? (i := 57) rfl))) (notFace_of_selects (args := #[]) (mvT hZ952 (hw _ (List.mem_of_getElem? (i := 59) rfl)))) (mvT hZ952 (hw _ (List.mem_of_getElem? (i := 59) rfl))) (mvT hZ952 (hw _ (List.mem_of_getElem? (i := 58) rfl))) (by decide) (own_backH (W := 1) (rm_nam l Z a0 hw [] ap920 ak920 c1 c2 wO wT kO kT cz h952 n0 Zs955 O953 f957 f960 f959 f958 SE EC FR EV F1 F2 SO1 SO2 AO1 AO2 SC hcz) hZ952 (hw _ (List.mem_of_getElem? (i := 60) rfl)) (hw _ (List.mem_of_getElem? (i := 5) rfl)) (by decide) (by decide) hEL CR956.1 sf0 all0) q966a q966c (g := (mkF m 116 #[.val (.long x1), .second, .val (.long (86400000 : Int64)), .second, .val (.long q), .second, .val (.ref ap920), .val (.long (q / (86400000 : Int64))), .second, .val (.long (((q / (86400000 : Int64)) * (86400000 : Int64)) + (86400000 : Int64))), .second, .val (.int (1 : Int32)), .val (.int (1 : Int32)), .val (.int (1 : Int32)), .val (.int (1 : Int32)), .unset] [(.long (0 : Int64)), (.ref ap920), (.ref a952)])) rfl (by rw [hml]; rfl) (Steps.refl _) (argsL := [(.long (0 : Int64))]) (rest := [(.ref a952)]) (lenOf lw_pd4 rfl) rfl (by show 2 * 0 + _ ≤ _; exact Nat.le_of_eq rfl) (hb hby at_116) (fun _ _ => ⟨rfl, e952, Nat.le_of_ble_eq_true rfl, Nat.le_of_ble_eq_true rfl⟩)
  dsimp only [Pt.U, Pt.locs, Pt.cells, Pt.slots] at X966 l966 y966 z966 st966 hQ966 hSn966 hgr966 CRn966
  subst l966 y966 z966
  obtain ⟨Xr966, hSr966, hZr966, hownr966⟩ := rebS hS952 (own_hle e952 hk952) X966 hSn966 hgr966 hZ952 hown952
  obtain ⟨ar966, rfl, N966q, E966, R966⟩ := hQ966
  refine own_seq st966 ?_
  have N966 := Fr.app N951 N966q
  have O967 := O953.ext E966
  have KP968 := KP954.ext E966
  have Zs969 := Nat.le_trans Zs955 E966.1
  have CR970 := CR956.trans CRn966
  have f971 := f957.ext E966
  have f972 := f958.ext E966
  have f973 := f959.ext E966
  have f974 := f960.ext E966
  have f975 := f961.ext E966
  have f976 := f962.ext E966
  have f977 := f963.ext E966
  have f978 := f964.ext E966
  have f979 := LS965.ext E966
  show OwnGo p e below (T966.setTop (mkF m 119 #[.val (.long x1), .second, .val (.long (86400000 : Int64)), .second, .val (.long q), .second, .val (.ref ap920), .val (.long (q / (86400000 : Int64))), .second, .val (.long (((q / (86400000 : Int64)) * (86400000 : Int64)) + (86400000 : Int64))), .second, .val (.int (1 : Int32)), .val (.int (1 : Int32)), .val (.int (1 : Int32)), .val (.int (1 : Int32)), .unset] [(.ref ar966), (.ref a952)])) _
  obtain ⟨cq980, kq980, q980a, q980b, q980c⟩ := isOf hZr966 rfl (OwnStr.exa f979)
  obtain ⟨_, _, ⟨T980, L980, k980, n980⟩, -, X980, ⟨Lc980, hQ980, l980, y980, z980⟩, st980⟩ := Xr966.virtualBack hx (y := (⟨"java/lang/String", "equals", "(Ljava/lang/Object;)Z"⟩ : MethodName)) (z := (⟨"java/lang/String", "equals", "(Ljava/lang/Object;)Z"⟩ : MethodName)) hownr966 (mvT hZr966 (hw _ (List.mem_of_getElem? (i := 50) rfl))) (mvT hZr966 (hw _ (List.mem_of_getElem? (i := 51) rfl))) (notFace_of_selects (args := #[]) (mvT hZr966 (hw _ (List.mem_of_getElem? (i := 53) rfl)))) (mvT hZr966 (hw _ (List.mem_of_getElem? (i := 53) rfl))) (mvT hZr966 (hw _ (List.mem_of_getElem? (i := 52) rfl))) (by decide) (own_backN (W := 0) (rm_seq l Z a0 hw [] a952 ar966 [100, 97, 121, 58, 49, 57, 55, 48, 45, 48, 49, 45, 48, 49] [100, 97, 121, 58, 49, 57, 55, 48, 45, 48, 49, 45, 48, 49] cz T966.heap n0 Zs969 O967 f979 R966 SC hcz) hZr966 (hw _ (List.mem_of_getElem? (i := 54) rfl)) (hw _ (List.mem_of_getElem? (i := 10) rfl)) (by decide) (by decide)) q980a q980c (g := (mkF m 119 #[.val (.long x1), .second, .val (.long (86400000 : Int64)), .second, .val (.long q), .second, .val (.ref ap920), .val (.long (q / (86400000 : Int64))), .second, .val (.long (((q / (86400000 : Int64)) * (86400000 : Int64)) + (86400000 : Int64))), .second, .val (.int (1 : Int32)), .val (.int (1 : Int32)), .val (.int (1 : Int32)), .val (.int (1 : Int32)), .unset] [(.ref ar966), (.ref a952)])) rfl (by rw [hml]; rfl) (Steps.refl _) (argsL := [(.ref ar966)]) (rest := []) (lenOf lw_pd3 rfl) rfl (by show 2 * 0 + _ ≤ _; exact Nat.le_of_eq rfl) (hb hby at_119) (fun _ _ => ⟨rfl, rfl, Nat.le_of_ble_eq_true rfl, Nat.le_of_ble_eq_true rfl⟩)
  dsimp only [Pt.U, Pt.locs, Pt.cells, Pt.slots] at X980 l980 y980 z980 st980 hQ980
  subst l980 y980 z980
  rw [if_pos rfl] at hQ980
  obtain ⟨rfl, N980q, hh980⟩ := hQ980
  refine own_seq st980 ?_
  have N980 := Fr.app N966 N980q
  show OwnGo p e below (T980.setTop (mkF m 122 #[.val (.long x1), .second, .val (.long (86400000 : Int64)), .second, .val (.long q), .second, .val (.ref ap920), .val (.long (q / (86400000 : Int64))), .second, .val (.long (((q / (86400000 : Int64)) * (86400000 : Int64)) + (86400000 : Int64))), .second, .val (.int (1 : Int32)), .val (.int (1 : Int32)), .val (.int (1 : Int32)), .val (.int (1 : Int32)), .unset] [(.int (1 : Int32))])) _
  refine own_back (fun t k => XS.istore X980.here hx rfl (hb hby at_122) rfl (l' := #[.val (.long x1), .second, .val (.long (86400000 : Int64)), .second, .val (.long q), .second, .val (.ref ap920), .val (.long (q / (86400000 : Int64))), .second, .val (.long (((q / (86400000 : Int64)) * (86400000 : Int64)) + (86400000 : Int64))), .second, .val (.int (1 : Int32)), .val (.int (1 : Int32)), .val (.int (1 : Int32)), .val (.int (1 : Int32)), .val (.int (1 : Int32))]) rfl k) ?_
  show OwnGo p e below (T980.setTop (mkF m 124 #[.val (.long x1), .second, .val (.long (86400000 : Int64)), .second, .val (.long q), .second, .val (.ref ap920), .val (.long (q / (86400000 : Int64))), .second, .val (.long (((q / (86400000 : Int64)) * (86400000 : Int64)) + (86400000 : Int64))), .second, .val (.int (1 : Int32)), .val (.int (1 : Int32)), .val (.int (1 : Int32)), .val (.int (1 : Int32)), .val (.int (1 : Int32))] [])) _
  refine own_back (fun t k => XS.iload X980.here hx rfl (hb hby at_124) rfl k) ?_
  show OwnGo p e below (T980.setTop (mkF m 126 #[.val (.long x1), .second, .val (.long (86400000 : Int64)), .second, .val (.long q), .second, .val (.ref ap920), .val (.long (q / (86400000 : Int64))), .second, .val (.long (((q / (86400000 : Int64)) * (86400000 : Int64)) + (86400000 : Int64))), .second, .val (.int (1 : Int32)), .val (.int (1 : Int32)), .val (.int (1 : Int32)), .val (.int (1 : Int32)), .val (.int (1 : Int32))] [(.int (1 : Int32))])) _
  refine own_back (fun t k => XS.ifNo X980.here hx rfl (hb hby at_126) rfl (Jvm.Free.XT.i0_eq_f (by decide)) k) ?_
  show OwnGo p e below (T980.setTop (mkF m 129 #[.val (.long x1), .second, .val (.long (86400000 : Int64)), .second, .val (.long q), .second, .val (.ref ap920), .val (.long (q / (86400000 : Int64))), .second, .val (.long (((q / (86400000 : Int64)) * (86400000 : Int64)) + (86400000 : Int64))), .second, .val (.int (1 : Int32)), .val (.int (1 : Int32)), .val (.int (1 : Int32)), .val (.int (1 : Int32)), .val (.int (1 : Int32))] [])) _
  refine own_back (fun t k => XS.iload X980.here hx rfl (hb hby at_129) rfl k) ?_
  show OwnGo p e below (T980.setTop (mkF m 131 #[.val (.long x1), .second, .val (.long (86400000 : Int64)), .second, .val (.long q), .second, .val (.ref ap920), .val (.long (q / (86400000 : Int64))), .second, .val (.long (((q / (86400000 : Int64)) * (86400000 : Int64)) + (86400000 : Int64))), .second, .val (.int (1 : Int32)), .val (.int (1 : Int32)), .val (.int (1 : Int32)), .val (.int (1 : Int32)), .val (.int (1 : Int32))] [(.int (1 : Int32))])) _
  refine own_back (fun t k => XS.ifNo X980.here hx rfl (hb hby at_131) rfl (Jvm.Free.XT.i0_eq_f (by decide)) k) ?_
  show OwnGo p e below (T980.setTop (mkF m 134 #[.val (.long x1), .second, .val (.long (86400000 : Int64)), .second, .val (.long q), .second, .val (.ref ap920), .val (.long (q / (86400000 : Int64))), .second, .val (.long (((q / (86400000 : Int64)) * (86400000 : Int64)) + (86400000 : Int64))), .second, .val (.int (1 : Int32)), .val (.int (1 : Int32)), .val (.int (1 : Int32)), .val (.int (1 : Int32)), .val (.int (1 : Int32))] [])) _
  refine own_back (fun t k => XS.iload X980.here hx rfl (hb hby at_134) rfl k) ?_
  show OwnGo p e below (T980.setTop (mkF m 136 #[.val (.long x1), .second, .val (.long (86400000 : Int64)), .second, .val (.long q), .second, .val (.ref ap920), .val (.long (q / (86400000 : Int64))), .second, .val (.long (((q / (86400000 : Int64)) * (86400000 : Int64)) + (86400000 : Int64))), .second, .val (.int (1 : Int32)), .val (.int (1 : Int32)), .val (.int (1 : Int32)), .val (.int (1 : Int32)), .val (.int (1 : Int32))] [(.int (1 : Int32))])) _
  refine own_back (fun t k => XS.ifNo X980.here hx rfl (hb hby at_136) rfl (Jvm.Free.XT.i0_eq_f (by decide)) k) ?_
  show OwnGo p e below (T980.setTop (mkF m 139 #[.val (.long x1), .second, .val (.long (86400000 : Int64)), .second, .val (.long q), .second, .val (.ref ap920), .val (.long (q / (86400000 : Int64))), .second, .val (.long (((q / (86400000 : Int64)) * (86400000 : Int64)) + (86400000 : Int64))), .second, .val (.int (1 : Int32)), .val (.int (1 : Int32)), .val (.int (1 : Int32)), .val (.int (1 : Int32)), .val (.int (1 : Int32))] [])) _
  refine own_back (fun t k => XS.iload X980.here hx rfl (hb hby at_139) rfl k) ?_
  show OwnGo p e below (T980.setTop (mkF m 141 #[.val (.long x1), .second, .val (.long (86400000 : Int64)), .second, .val (.long q), .second, .val (.ref ap920), .val (.long (q / (86400000 : Int64))), .second, .val (.long (((q / (86400000 : Int64)) * (86400000 : Int64)) + (86400000 : Int64))), .second, .val (.int (1 : Int32)), .val (.int (1 : Int32)), .val (.int (1 : Int32)), .val (.int (1 : Int32)), .val (.int (1 : Int32))] [(.int (1 : Int32))])) _
  refine own_back (fun t k => XS.ifNo X980.here hx rfl (hb hby at_141) rfl (Jvm.Free.XT.i0_eq_f (by decide)) k) ?_
  show OwnGo p e below (T980.setTop (mkF m 144 #[.val (.long x1), .second, .val (.long (86400000 : Int64)), .second, .val (.long q), .second, .val (.ref ap920), .val (.long (q / (86400000 : Int64))), .second, .val (.long (((q / (86400000 : Int64)) * (86400000 : Int64)) + (86400000 : Int64))), .second, .val (.int (1 : Int32)), .val (.int (1 : Int32)), .val (.int (1 : Int32)), .val (.int (1 : Int32)), .val (.int (1 : Int32))] [])) _
  refine own_back (fun t k => XS.iload X980.here hx rfl (hb hby at_144) rfl k) ?_
  show OwnGo p e below (T980.setTop (mkF m 146 #[.val (.long x1), .second, .val (.long (86400000 : Int64)), .second, .val (.long q), .second, .val (.ref ap920), .val (.long (q / (86400000 : Int64))), .second, .val (.long (((q / (86400000 : Int64)) * (86400000 : Int64)) + (86400000 : Int64))), .second, .val (.int (1 : Int32)), .val (.int (1 : Int32)), .val (.int (1 : Int32)), .val (.int (1 : Int32)), .val (.int (1 : Int32))] [(.int (1 : Int32))])) _
  refine own_back (fun t k => XS.ifNo X980.here hx rfl (hb hby at_146) rfl (Jvm.Free.XT.i0_eq_f (by decide)) k) ?_
  show OwnGo p e below (T980.setTop (mkF m 149 #[.val (.long x1), .second, .val (.long (86400000 : Int64)), .second, .val (.long q), .second, .val (.ref ap920), .val (.long (q / (86400000 : Int64))), .second, .val (.long (((q / (86400000 : Int64)) * (86400000 : Int64)) + (86400000 : Int64))), .second, .val (.int (1 : Int32)), .val (.int (1 : Int32)), .val (.int (1 : Int32)), .val (.int (1 : Int32)), .val (.int (1 : Int32))] [])) _
  refine own_back (fun t k => XS.iconst X980.here hx rfl (hb hby at_149) k) ?_
  show OwnGo p e below (T980.setTop (mkF m 150 #[.val (.long x1), .second, .val (.long (86400000 : Int64)), .second, .val (.long q), .second, .val (.ref ap920), .val (.long (q / (86400000 : Int64))), .second, .val (.long (((q / (86400000 : Int64)) * (86400000 : Int64)) + (86400000 : Int64))), .second, .val (.int (1 : Int32)), .val (.int (1 : Int32)), .val (.int (1 : Int32)), .val (.int (1 : Int32)), .val (.int (1 : Int32))] [(.int (1 : Int32))])) _
  refine own_back (fun t k => XS.goto X980.here hx rfl (pc0 := 150) (pc' := 154) rfl (hb hby at_150) (by decide) (by decide) k) ?_
  show OwnGo p e below (T980.setTop (mkF m 154 #[.val (.long x1), .second, .val (.long (86400000 : Int64)), .second, .val (.long q), .second, .val (.ref ap920), .val (.long (q / (86400000 : Int64))), .second, .val (.long (((q / (86400000 : Int64)) * (86400000 : Int64)) + (86400000 : Int64))), .second, .val (.int (1 : Int32)), .val (.int (1 : Int32)), .val (.int (1 : Int32)), .val (.int (1 : Int32)), .val (.int (1 : Int32))] [(.int (1 : Int32))])) _
  refine own_retNW X980 hx Bd.notSynchronized (t := .boolean) (z := (1 : Int32)) Bd.returns (by simp) rfl hSr966 (Nat.le_refl _) hZr966 hEL (hh ▸ CR970) (hb hby at_154) hh980 (Nat.le_of_ble_eq_true rfl) (Nat.le_of_ble_eq_true rfl) ?_
  exact ⟨rfl, N980⟩
set_option maxRecDepth 65536 in
set_option maxHeartbeats 40000000 in
theorem comes_1 {Post : Tables → Env → Array Value → State → Outcome → State → Prop} (hpost : ∀ tb e args s v u, (limb_1_1.after args s (.returned v) u = true ∧ limb_1_2.after args s (.returned v) u = true ∧ True) → ReturnedEndW s (.returned v) u (Jvm.fieldLocs frame_1_writes args s ++ Jvm.arrayLocs frame_1_arrays args s ++ Jvm.staticLocs frame_1_statics s) 40 6400 → Post tb e args s (.returned v) u) :
    ArmFor flags0 classFile x code maxLocals ret World_1 tables_1 room_1 Calls_1 rest_1 Pre_1 Post := by
  intro l hfl _ _ p e ha hc hk s m args below hf hA hF happ hP
  obtain ⟨hcalls, hrest, hpre⟩ := hP
  obtain ⟨-, -, -, hnamed, -, -, -, hat⟩ := (Spec.applies_iff hf).mp happ
  obtain ⟨hg, hn⟩ := and_e (Cond.before_iff.mp (show (Jvm.Cond.and given_1 narrow_1).before args s = true from hpre))
  obtain ⟨g1, g2⟩ := and_e hg
  obtain ⟨w0, rfl⟩ : ∃ w0 : Value, args = #[w0] := by
    have hs : args.size = 1 := by simpa [Cond.value, given_1] using g1
    obtain ⟨L⟩ := args
    match L, hs with
    | [w0], _ => exact ⟨w0, rfl⟩
  have hw := fun d (hd : d ∈ tables_1) => atoms_spec (ws := Jvm.Cond.code x code maxLocals ret :: tables_1) hat d (List.mem_cons_of_mem _ hd)
  have hfit : Fit s := fun {y c} hc i hi => by
    obtain ⟨ha, rfl⟩ := Array.getElem?_eq_some_iff.mp hc
    have q := List.all_eq_true.mp ((Array.all_eq_true_iff_forall_mem.mp hF) _ (Array.getElem_mem ha)) i (List.mem_range.mpr hi)
    simpa [Array.getElem?_eq_getElem hi] using q
  obtain ⟨hsets, hown0⟩ := atoms_of _ (rest_1_c_eq ▸ (show rest_1_c.before _ s = true from hrest))
  have hr0 := Cond.before_iff.mp hown0
  obtain ⟨i0, ei0⟩ := isL_v g2
  obtain rfl : w0 = (.long i0) := Option.some.inj ei0
  obtain ⟨cz, ecz⟩ := is_v (Cond.before_iff.mp (hsets _ (List.mem_of_getElem? (i := 1) rfl)))
  have SC : Sta s s.heap "java/lang/String" "COMPACT_STRINGS" "Z" (.int cz) := Sta.start ecz (Or.inl (hsets _ (List.mem_of_getElem? (i := 0) rfl)))
  have ncz := not_v (Cond.before_iff.mp (hsets _ (List.mem_of_getElem? (i := 2) rfl)))
  have hcz : ¬ (cz = (0 : Int32)) := gotF (Cond.eq_ints ecz (Term.int_eval (0))) ncz
  obtain ⟨c1, ec1⟩ := exa_v (Cond.before_iff.mp (hsets _ (List.mem_of_getElem? (i := 15) rfl)))
  have SE : Sta s s.heap "java/time/temporal/ChronoField" "EPOCH_DAY" "Ljava/time/temporal/ChronoField;" (.ref c1) := Sta.start ec1 (Or.inl (hsets _ (List.mem_of_getElem? (i := 10) rfl)))
  have EC : Exa s s.heap c1 "java/time/temporal/ChronoField" := Exa.start ec1 (Cond.before_iff.mp (hsets _ (List.mem_of_getElem? (i := 15) rfl)))
  obtain ⟨c2, ec2⟩ := exa_v (Cond.before_iff.mp (hsets _ (List.mem_of_getElem? (i := 31) rfl)))
  have FR : Fld s s.heap c1 "java/time/temporal/ChronoField" "range" "Ljava/time/temporal/ValueRange;" (.ref c2) := Fld.start ((fld_at ec1).symm.trans ec2)
  have EV : Exa s s.heap c2 "java/time/temporal/ValueRange" := Exa.start ec2 (Cond.before_iff.mp (hsets _ (List.mem_of_getElem? (i := 31) rfl)))
  have F1 : Fld s s.heap c2 "java/time/temporal/ValueRange" "minSmallest" "J" (.long (-365243219162)) := Fld.start ((fld_at ec2).symm.trans (own_eqlong (Cond.before_iff.mp (hsets _ (List.mem_of_getElem? (i := 32) rfl)))))
  have F2 : Fld s s.heap c2 "java/time/temporal/ValueRange" "maxLargest" "J" (.long (365241780471)) := Fld.start ((fld_at ec2).symm.trans (own_eqlong (Cond.before_iff.mp (hsets _ (List.mem_of_getElem? (i := 35) rfl)))))
  obtain ⟨wO, ewO⟩ := exa_v (Cond.before_iff.mp (hsets _ (List.mem_of_getElem? (i := 40) rfl)))
  have SO1 : Sta s s.heap "java/lang/Integer" "DigitOnes" "[B" (.ref wO) := Sta.start ewO (Or.inl (hsets _ (List.mem_of_getElem? (i := 39) rfl)))
  obtain ⟨kO, AO1⟩ := own_digits ewO (Cond.before_iff.mp (hsets _ (List.mem_of_getElem? (i := 40) rfl))) (hw _ (List.mem_of_getElem? (i := 12) rfl)) (Cond.before_iff.mp (hsets _ (List.mem_of_getElem? (i := 41) rfl))) (Cond.before_iff.mp (hsets _ (List.mem_of_getElem? (i := 42) rfl))) own_F1 own_V1.1 own_V1.2
  obtain ⟨wT, ewT⟩ := exa_v (Cond.before_iff.mp (hsets _ (List.mem_of_getElem? (i := 45) rfl)))
  have SO2 : Sta s s.heap "java/lang/Integer" "DigitTens" "[B" (.ref wT) := Sta.start ewT (Or.inl (hsets _ (List.mem_of_getElem? (i := 44) rfl)))
  obtain ⟨kT, AO2⟩ := own_digits ewT (Cond.before_iff.mp (hsets _ (List.mem_of_getElem? (i := 45) rfl))) (hw _ (List.mem_of_getElem? (i := 12) rfl)) (Cond.before_iff.mp (hsets _ (List.mem_of_getElem? (i := 46) rfl))) (Cond.before_iff.mp (hsets _ (List.mem_of_getElem? (i := 47) rfl))) own_F2 own_V2.1 own_V2.2
  have hCH : CHv s own_EL s.vm s.heap := CHv.start (own_EW hw) (fun p hp => hcalls.1 p hp) (hsets _ (List.mem_of_getElem? (i := 2) rfl)) (hw _ (List.mem_of_getElem? (i := 12) rfl)) (hw _ (List.mem_of_getElem? (i := 11) rfl))
  obtain ⟨n, o, h1, h2, h3, _, L, rfl, ⟨rfl, N⟩, -, hq⟩ := rm_law l s _ hw tables_1 i0 c1 c2 wO wT kO kT cz s.heap s.heap.size (Nat.le_refl _) (Old.start s) SE EC FR EV F1 F2 SO1 SO2 AO1 AO2 SC hcz p e ha hc hk s m _ below hf ((Spec.applies_iff_loose hf).mp happ).1 ⟨rfl, State.Warmed39.refl s, rfl, hCH, fun _ q => nomatch q⟩ trivial
  refine ⟨n, _, h1, h2, h3, hpost _ _ _ _ _ _ ⟨Cond.after_iff.mpr rfl, Cond.after_iff.mpr (eq_i res_at (Term.int_eval (1)) rfl), trivial⟩ ⟨hq.1, hq.2.1, hq.2.2.1, (hq.2.2.2.sift fun y hy => Or.inr (N y hy)).mono (by decide) (by decide)⟩⟩
theorem main_1_1 : Claimed_1_1 := comes_1 fun _ _ _ _ _ _ h hF => ⟨h.1, hF⟩
theorem main_1_2 : Claimed_1_2 := comes_1 fun _ _ _ _ _ _ h hF => ⟨h.2.1, hF⟩
end Jvm.Pilot.@@N@@
namespace Jvm.Pilot.@@N@@
open Jvm Jvm.ClassFile Sem Op Lib Jvm.Free Jvm.Stand Jvm.Pilot.@@N@@.Jvm.D
/-! MADE BY PROGRAM (witnessworld.py) out of the Statement's table words and the real class files: 36 classes; the members and pool entries that the words name. The judged class is class 1, her method 1. -/
namespace start1
open Jvm.ClassFile
def u (s : String) : CpInfo := .utf8 (stringToUtf16 s)
/-- a pool by its gaps: so many unusable entries, then the entry; so many at the end -/
def gap : Nat → List CpInfo → List CpInfo
  | 0, r => r
  | n + 1, r => .unusable :: gap n r
def poolList (es : List (Nat × CpInfo)) (last : Nat) : List CpInfo := es.foldr (fun e r => gap e.1 (e.2 :: r)) (gap last [])
def pool (es : List (Nat × CpInfo)) (last : Nat) : Array CpInfo := ⟨poolList es last⟩
def fileOf (pool : Array CpInfo) (this : Nat) (attrs : Array Attribute := #[]) (ms : Array MethodInfo := #[]) (fl : Nat := 33) (sup : Nat := 0) (ifs : Array Nat := #[]) (fds : Array FieldInfo := #[]) : ClassFile where
  minorVersion := 0
  majorVersion := 65
  constantPool := pool
  accessFlags := fl
  thisClass := this
  superClass := sup
  interfaces := ifs
  fields := fds
  methods := ms
  attributes := attrs
def plain (name : String) (sup : Option ClassId) : Class where
  name := name
  kind := .ordinary
  loader := none
  accessFlags := 33
  super := sup
  interfaces := #[]
  cf := none
  fields := #[]
  methods := #[]
  instanceTypes := #[]
  staticTypes := #[]
  resolved := #[]
  callSites := []
  init := .initialized
  statics := none
  mirror := none

def pool0 : Array CpInfo := pool [(5, u "<init>"), (0, u "()V"), (1, .class_ 10), (1, u "java/lang/Object"), (85, u "clone"), (0, u "()Ljava/lang/Object;")] 26

def k0c0 : Code := { maxStack := 0, maxLocals := 1, code := object_method_1_code, exceptionTable := #[], attributes := #[] }
def k0m0 : Method := { name := "<init>", desc := "()V", sig := { parameters := [], returnType := none }, accessFlags := 1, code := some k0c0 }
def k0m1 : Method := { name := "clone", desc := "()Ljava/lang/Object;", sig := { parameters := [], returnType := some (.object "java/lang/Object") }, accessFlags := 260, code := none }
/-- java/lang/Object -/
def k0 : Class := { plain "java/lang/Object" none with
  accessFlags := 33
  interfaces := #[]
  cf := some (fileOf pool0 8 #[] #[{ accessFlags := 1, nameIndex := 5, descriptorIndex := 6, attributes := #[] }, { accessFlags := 260, nameIndex := 96, descriptorIndex := 97, attributes := #[] }] 33 0 #[] #[])
  fields := #[]
  methods := #[k0m0, k0m1]
  instanceTypes := #[]
  staticTypes := #[]
  resolved := Array.replicate 124 none
  statics := none }

def pool1 : Array CpInfo := pool [(2, .class_ 4), (1, u "java/lang/Object"), (0, u "<init>"), (0, u "()V"), (0, .long 86400000), (3, .long 9223372036854775807), (1, .class_ 14), (0, u "com/example/sorted_set_patterns/sortedsetpatterns/Periods"), (0, .long 253402300800000), (1, .methodref 13 18), (0, .nameAndType 19 20), (0, u "days"), (0, u "()Lcom/example/sorted_set_patterns/sortedsetpatterns/Periods;"), (0, .methodref 13 22), (0, .nameAndType 23 24), (0, u "number"), (0, u "(J)J"), (0, .methodref 13 26), (0, .nameAndType 27 24), (0, u "end"), (0, .string 19), (0, .methodref 13 30), (0, .nameAndType 31 32), (0, u "toString"), (0, u "()Ljava/lang/String;"), (0, .methodref 34 35), (0, .class_ 36), (0, .nameAndType 37 38), (0, u "java/lang/String"), (0, u "equals"), (0, u "(Ljava/lang/Object;)Z"), (0, .string 40), (0, u "day:1970-01-01"), (0, .methodref 13 42), (0, .nameAndType 43 44), (0, u "name"), (0, u "(J)Ljava/lang/String;"), (0, .class_ 46), (0, u "com/example/sorted_set_patterns/sortedsetpatterns/PeriodsDaysPinLaw"), (2, u "law"), (0, u "(J)Z")] 3

def k1m0 : Method := { name := "<init>", desc := "()V", sig := { parameters := [], returnType := none }, accessFlags := 1, code := none }
def k1c1 : Code := { maxStack := 6, maxLocals := 16, code := code, exceptionTable := #[], attributes := #[] }
def k1m1 : Method := { name := "law", desc := "(J)Z", sig := { parameters := [.long], returnType := some .boolean }, accessFlags := 9, code := some k1c1 }
/-- com/example/sorted_set_patterns/sortedsetpatterns/PeriodsDaysPinLaw -/
def k1 : Class := { plain "com/example/sorted_set_patterns/sortedsetpatterns/PeriodsDaysPinLaw" (some 0) with
  accessFlags := 49
  interfaces := #[]
  cf := some (fileOf pool1 45 #[] #[{ accessFlags := 1, nameIndex := 5, descriptorIndex := 6, attributes := #[] }, { accessFlags := 9, nameIndex := 49, descriptorIndex := 50, attributes := #[] }] 49 2 #[] #[])
  fields := #[]
  methods := #[k1m0, k1m1]
  instanceTypes := #[]
  staticTypes := #[]
  resolved := Array.replicate 54 none
  statics := none }

def pool2 : Array CpInfo := pool [(1, .methodref 2 3), (0, .class_ 4), (0, .nameAndType 5 6), (0, u "java/lang/Object"), (0, u "<init>"), (0, u "()V"), (0, .fieldref 8 9), (0, .class_ 10), (0, .nameAndType 11 12), (0, u "com/example/sorted_set_patterns/sortedsetpatterns/Periods"), (0, u "kind"), (0, u "Ljava/lang/String;"), (0, .fieldref 8 14), (0, .nameAndType 15 16), (0, u "dated"), (0, u "Z"), (0, .fieldref 8 18), (0, .nameAndType 19 20), (0, u "origin"), (0, u "J"), (0, .fieldref 8 22), (0, .nameAndType 23 20), (0, u "length"), (2, u "DEFAULT_BASE"), (0, u "Ljava/time/LocalDate;"), (13, .class_ 43), (1, u "java/time/LocalDate"), (12, .long 86400000), (1, .long 253402300800000), (3, .class_ 63), (0, u "java/lang/StringBuilder"), (0, .methodref 62 3), (2, .methodref 62 68), (0, .nameAndType 69 70), (0, u "append"), (0, u "(Ljava/lang/String;)Ljava/lang/StringBuilder;"), (5, .methodref 62 77), (0, .nameAndType 78 79), (0, u "toString"), (0, u "()Ljava/lang/String;"), (7, .methodref 8 88), (0, .nameAndType 5 89), (0, u "(Ljava/lang/String;ZJJ)V"), (0, .string 91), (0, u "day"), (9, .string 102), (0, u ":"), (0, .methodref 8 104), (0, .nameAndType 105 106), (0, u "label"), (0, u "(J)Ljava/lang/String;"), (9, .methodref 41 117), (0, .nameAndType 118 119), (0, u "ofEpochDay"), (0, u "(J)Ljava/time/LocalDate;"), (0, .methodref 41 77), (4, .string 126), (0, u "days"), (6, u "END"), (1, u "DAY"), (3, u "()Lcom/example/sorted_set_patterns/sortedsetpatterns/Periods;"), (1, u "number"), (0, u "(J)J"), (0, u "end"), (0, u "name")] 7

def k2c0 : Code := { maxStack := 3, maxLocals := 7, code := prog_5_method_1_code, exceptionTable := #[], attributes := #[] }
def k2m0 : Method := { name := "<init>", desc := "(Ljava/lang/String;ZJJ)V", sig := { parameters := [(.object "java/lang/String"), .boolean, .long, .long], returnType := none }, accessFlags := 2, code := some k2c0 }
def k2c1 : Code := { maxStack := 8, maxLocals := 0, code := prog_5_method_4_code, exceptionTable := #[], attributes := #[] }
def k2m1 : Method := { name := "days", desc := "()Lcom/example/sorted_set_patterns/sortedsetpatterns/Periods;", sig := { parameters := [], returnType := some (.object "com/example/sorted_set_patterns/sortedsetpatterns/Periods") }, accessFlags := 9, code := some k2c1 }
def k2c2 : Code := { maxStack := 9, maxLocals := 3, code := prog_5_method_5_code, exceptionTable := #[], attributes := #[] }
def k2m2 : Method := { name := "number", desc := "(J)J", sig := { parameters := [.long], returnType := some .long }, accessFlags := 1, code := some k2c2 }
def k2c3 : Code := { maxStack := 6, maxLocals := 3, code := prog_5_method_6_code, exceptionTable := #[], attributes := #[] }
def k2m3 : Method := { name := "end", desc := "(J)J", sig := { parameters := [.long], returnType := some .long }, accessFlags := 0, code := some k2c3 }
def k2c4 : Code := { maxStack := 4, maxLocals := 3, code := prog_5_method_7_code, exceptionTable := #[], attributes := #[] }
def k2m4 : Method := { name := "name", desc := "(J)Ljava/lang/String;", sig := { parameters := [.long], returnType := some (.object "java/lang/String") }, accessFlags := 0, code := some k2c4 }
def k2c5 : Code := { maxStack := 2, maxLocals := 3, code := prog_5_method_9_code, exceptionTable := #[], attributes := #[] }
def k2m5 : Method := { name := "label", desc := "(J)Ljava/lang/String;", sig := { parameters := [.long], returnType := some (.object "java/lang/String") }, accessFlags := 2, code := some k2c5 }
def k2c6 : Code := { maxStack := 5, maxLocals := 1, code := prog_5_method_10_code, exceptionTable := #[], attributes := #[] }
def k2m6 : Method := { name := "toString", desc := "()Ljava/lang/String;", sig := { parameters := [], returnType := some (.object "java/lang/String") }, accessFlags := 1, code := some k2c6 }
/-- com/example/sorted_set_patterns/sortedsetpatterns/Periods -/
def k2 : Class := { plain "com/example/sorted_set_patterns/sortedsetpatterns/Periods" (some 0) with
  accessFlags := 33
  interfaces := #[]
  cf := some (fileOf pool2 8 #[] #[{ accessFlags := 2, nameIndex := 5, descriptorIndex := 89, attributes := #[] }, { accessFlags := 9, nameIndex := 126, descriptorIndex := 139, attributes := #[] }, { accessFlags := 1, nameIndex := 141, descriptorIndex := 142, attributes := #[] }, { accessFlags := 0, nameIndex := 143, descriptorIndex := 142, attributes := #[] }, { accessFlags := 0, nameIndex := 144, descriptorIndex := 106, attributes := #[] }, { accessFlags := 2, nameIndex := 105, descriptorIndex := 106, attributes := #[] }, { accessFlags := 1, nameIndex := 78, descriptorIndex := 79, attributes := #[] }] 33 2 #[] #[{ accessFlags := 25, nameIndex := 26, descriptorIndex := 27, attributes := #[] }, { accessFlags := 25, nameIndex := 133, descriptorIndex := 20, attributes := #[] }, { accessFlags := 26, nameIndex := 135, descriptorIndex := 20, attributes := #[] }, { accessFlags := 18, nameIndex := 11, descriptorIndex := 12, attributes := #[] }, { accessFlags := 18, nameIndex := 15, descriptorIndex := 16, attributes := #[] }, { accessFlags := 18, nameIndex := 19, descriptorIndex := 20, attributes := #[] }, { accessFlags := 18, nameIndex := 23, descriptorIndex := 20, attributes := #[] }])
  fields := #[{ name := "DEFAULT_BASE", type := (.object "java/time/LocalDate"), accessFlags := 25, slot := 0, constantValue := 0 }, { name := "END", type := .long, accessFlags := 25, slot := 1, constantValue := 0 }, { name := "DAY", type := .long, accessFlags := 26, slot := 2, constantValue := 0 }, { name := "kind", type := (.object "java/lang/String"), accessFlags := 18, slot := 0, constantValue := 0 }, { name := "dated", type := .boolean, accessFlags := 18, slot := 1, constantValue := 0 }, { name := "origin", type := .long, accessFlags := 18, slot := 2, constantValue := 0 }, { name := "length", type := .long, accessFlags := 18, slot := 3, constantValue := 0 }]
  methods := #[k2m0, k2m1, k2m2, k2m3, k2m4, k2m5, k2m6]
  instanceTypes := #[(.object "java/lang/String"), .boolean, .long, .long]
  staticTypes := #[(.object "java/time/LocalDate"), .long, .long]
  resolved := Array.replicate 152 none
  statics := none }

def pool3 : Array CpInfo := pool [(1, .class_ 2), (0, u "java/io/Serializable"), (0, .class_ 4), (0, u "java/lang/Object")] 2

/-- java/io/Serializable -/
def k3 : Class := { plain "java/io/Serializable" (some 0) with
  accessFlags := 1537
  interfaces := #[]
  cf := some (fileOf pool3 1 #[] #[] 1537 3 #[] #[])
  fields := #[]
  methods := #[]
  instanceTypes := #[]
  staticTypes := #[]
  resolved := Array.replicate 7 none
  statics := none }

def pool4 : Array CpInfo := pool [(1, .class_ 2), (0, u "java/lang/Comparable"), (0, .class_ 4), (0, u "java/lang/Object")] 7

/-- java/lang/Comparable -/
def k4 : Class := { plain "java/lang/Comparable" (some 0) with
  accessFlags := 1537
  interfaces := #[]
  cf := some (fileOf pool4 1 #[] #[] 1537 3 #[] #[])
  fields := #[]
  methods := #[]
  instanceTypes := #[]
  staticTypes := #[]
  resolved := Array.replicate 12 none
  statics := none }

def pool5 : Array CpInfo := pool [(2, .class_ 4), (1, u "java/lang/CharSequence"), (42, .class_ 48), (0, u "java/lang/CharSequence$1CodePointIterator"), (10, .class_ 60), (0, u "java/lang/CharSequence$1CharIterator"), (5, .class_ 67), (0, u "java/lang/Object")] 63

/-- java/lang/CharSequence -/
def k5 : Class := { plain "java/lang/CharSequence" (some 0) with
  accessFlags := 1537
  interfaces := #[]
  cf := some (fileOf pool5 2 #[.nestMembers #[47, 59]] #[] 1537 66 #[] #[])
  fields := #[]
  methods := #[]
  instanceTypes := #[]
  staticTypes := #[]
  resolved := Array.replicate 131 none
  statics := none }

def pool6 : Array CpInfo := pool [(1, .class_ 2), (0, u "java/lang/constant/Constable"), (0, .class_ 4), (0, u "java/lang/Object")] 6

/-- java/lang/constant/Constable -/
def k6 : Class := { plain "java/lang/constant/Constable" (some 0) with
  accessFlags := 1537
  interfaces := #[]
  cf := some (fileOf pool6 1 #[] #[] 1537 3 #[] #[])
  fields := #[]
  methods := #[]
  instanceTypes := #[]
  staticTypes := #[]
  resolved := Array.replicate 11 none
  statics := none }

def pool7 : Array CpInfo := pool [(1, .class_ 2), (0, u "java/lang/constant/ConstantDesc"), (0, .class_ 4), (0, u "java/lang/Object")] 32

/-- java/lang/constant/ConstantDesc -/
def k7 : Class := { plain "java/lang/constant/ConstantDesc" (some 0) with
  accessFlags := 1537
  interfaces := #[]
  cf := some (fileOf pool7 1 #[] #[] 1537 3 #[] #[])
  fields := #[]
  methods := #[]
  instanceTypes := #[]
  staticTypes := #[]
  resolved := Array.replicate 37 none
  statics := none }

def pool8 : Array CpInfo := pool [(1, .methodref 2 3), (0, .class_ 4), (0, .nameAndType 5 6), (0, u "java/lang/Object"), (0, u "<init>"), (0, u "()V"), (2, .fieldref 10 11), (0, .class_ 12), (0, .nameAndType 13 14), (0, u "java/lang/String"), (0, u "value"), (0, u "[B"), (0, .fieldref 10 16), (0, .nameAndType 17 18), (0, u "coder"), (0, u "B"), (2, u "hash"), (0, u "I"), (2, u "hashIsZero"), (0, u "Z"), (11, .fieldref 10 39), (0, .nameAndType 40 26), (0, u "COMPACT_STRINGS"), (13, .methodref 55 56), (0, .class_ 57), (0, .nameAndType 58 59), (0, u "java/util/Arrays"), (0, u "copyOfRange"), (0, u "([BII)[B"), (47, .class_ 109), (1, u "java/lang/StringLatin1"), (32, u "()Z"), (50, .class_ 195), (1, u "java/lang/System"), (16, .methodref 193 213), (0, .nameAndType 214 215), (0, u "arraycopy"), (0, u "(Ljava/lang/Object;ILjava/lang/Object;II)V"), (118, u "()I"), (0, .methodref 10 336), (0, .nameAndType 17 337), (0, u "()B"), (2, u "()[B"), (148, .methodref 10 490), (0, .nameAndType 5 491), (0, u "(Ljava/lang/AbstractStringBuilder;Ljava/lang/Void;)V"), (1, .nameAndType 494 142), (0, u "isLatin1"), (11, .nameAndType 507 334), (0, u "length"), (24, u "getBytes"), (8, .methodref 107 542), (0, .nameAndType 543 544), (0, u "equals"), (0, u "([B[B)Z"), (4, .methodref 550 506), (0, .class_ 551), (0, u "java/lang/AbstractStringBuilder"), (0, .methodref 550 553), (0, .nameAndType 554 340), (0, u "getValue"), (18, u "(Ljava/lang/Object;)Z"), (1, .class_ 576), (0, u "java/lang/CharSequence"), (22, u "CASE_INSENSITIVE_ORDER"), (0, u "Ljava/util/Comparator;"), (220, u "([BIB)V"), (225, .methodref 550 493), (53, u "serialPersistentFields"), (0, u "[Ljava/io/ObjectStreamField;"), (0, .class_ 1104), (0, u "java/lang/String$CaseInsensitiveComparator"), (1, .class_ 1107), (0, u "java/io/Serializable"), (0, .class_ 1109), (0, u "java/lang/Comparable"), (0, .class_ 1111), (0, u "java/lang/constant/Constable"), (0, .class_ 1113), (0, u "java/lang/constant/ConstantDesc"), (2, u "serialVersionUID"), (0, u "J"), (3, u "REPL"), (0, u "C"), (2, u "LATIN1"), (1, u "UTF16"), (105, u "(Ljava/lang/StringBuilder;)V")] 217

def k8m0 : Method := { name := "<init>", desc := "()V", sig := { parameters := [], returnType := none }, accessFlags := 1, code := none }
def k8c1 : Code := { maxStack := 3, maxLocals := 2, code := jdk_42_method_53_code, exceptionTable := #[], attributes := #[] }
def k8m1 : Method := { name := "<init>", desc := "(Ljava/lang/StringBuilder;)V", sig := { parameters := [(.object "java/lang/StringBuilder")], returnType := none }, accessFlags := 1, code := some k8c1 }
def k8c2 : Code := { maxStack := 2, maxLocals := 1, code := jdk_42_method_54_code, exceptionTable := #[], attributes := #[] }
def k8m2 : Method := { name := "length", desc := "()I", sig := { parameters := [], returnType := some .int }, accessFlags := 1, code := some k8c2 }
def k8c3 : Code := { maxStack := 2, maxLocals := 3, code := jdk_42_method_66_code, exceptionTable := #[], attributes := #[] }
def k8m3 : Method := { name := "equals", desc := "(Ljava/lang/Object;)Z", sig := { parameters := [(.object "java/lang/Object")], returnType := some .boolean }, accessFlags := 1, code := some k8c3 }
def k8c4 : Code := { maxStack := 5, maxLocals := 4, code := jdk_42_method_147_code, exceptionTable := #[], attributes := #[] }
def k8m4 : Method := { name := "getBytes", desc := "([BIB)V", sig := { parameters := [(.array .byte), .int, .byte], returnType := none }, accessFlags := 0, code := some k8c4 }
def k8c5 : Code := { maxStack := 5, maxLocals := 5, code := jdk_42_method_150_code, exceptionTable := #[], attributes := #[] }
def k8m5 : Method := { name := "<init>", desc := "(Ljava/lang/AbstractStringBuilder;Ljava/lang/Void;)V", sig := { parameters := [(.object "java/lang/AbstractStringBuilder"), (.object "java/lang/Void")], returnType := none }, accessFlags := 0, code := some k8c5 }
def k8c6 : Code := { maxStack := 1, maxLocals := 1, code := jdk_42_method_152_code, exceptionTable := #[], attributes := #[] }
def k8m6 : Method := { name := "coder", desc := "()B", sig := { parameters := [], returnType := some .byte }, accessFlags := 0, code := some k8c6 }
/-- java/lang/String -/
def k8 : Class := { plain "java/lang/String" (some 0) with
  accessFlags := 49
  interfaces := #[3, 4, 5, 6, 7]
  cf := some (fileOf pool8 10 #[.nestMembers #[1103]] #[{ accessFlags := 1, nameIndex := 5, descriptorIndex := 6, attributes := #[] }, { accessFlags := 1, nameIndex := 5, descriptorIndex := 1233, attributes := #[] }, { accessFlags := 1, nameIndex := 507, descriptorIndex := 334, attributes := #[] }, { accessFlags := 1, nameIndex := 543, descriptorIndex := 573, attributes := #[] }, { accessFlags := 0, nameIndex := 532, descriptorIndex := 821, attributes := #[] }, { accessFlags := 0, nameIndex := 5, descriptorIndex := 491, attributes := #[] }, { accessFlags := 0, nameIndex := 17, descriptorIndex := 337, attributes := #[] }] 49 2 #[1106, 1108, 575, 1110, 1112] #[{ accessFlags := 18, nameIndex := 13, descriptorIndex := 14, attributes := #[] }, { accessFlags := 18, nameIndex := 17, descriptorIndex := 18, attributes := #[] }, { accessFlags := 2, nameIndex := 21, descriptorIndex := 22, attributes := #[] }, { accessFlags := 2, nameIndex := 25, descriptorIndex := 26, attributes := #[] }, { accessFlags := 26, nameIndex := 1116, descriptorIndex := 1117, attributes := #[] }, { accessFlags := 24, nameIndex := 40, descriptorIndex := 26, attributes := #[] }, { accessFlags := 26, nameIndex := 1101, descriptorIndex := 1102, attributes := #[] }, { accessFlags := 26, nameIndex := 1121, descriptorIndex := 1122, attributes := #[] }, { accessFlags := 25, nameIndex := 599, descriptorIndex := 600, attributes := #[] }, { accessFlags := 24, nameIndex := 1125, descriptorIndex := 18, attributes := #[] }, { accessFlags := 24, nameIndex := 1127, descriptorIndex := 18, attributes := #[] }])
  fields := #[{ name := "value", type := (.array .byte), accessFlags := 18, slot := 0, constantValue := 0 }, { name := "coder", type := .byte, accessFlags := 18, slot := 1, constantValue := 0 }, { name := "hash", type := .int, accessFlags := 2, slot := 2, constantValue := 0 }, { name := "hashIsZero", type := .boolean, accessFlags := 2, slot := 3, constantValue := 0 }, { name := "serialVersionUID", type := .long, accessFlags := 26, slot := 0, constantValue := 0 }, { name := "COMPACT_STRINGS", type := .boolean, accessFlags := 24, slot := 1, constantValue := 0 }, { name := "serialPersistentFields", type := (.array (.object "java/io/ObjectStreamField")), accessFlags := 26, slot := 2, constantValue := 0 }, { name := "REPL", type := .char, accessFlags := 26, slot := 3, constantValue := 0 }, { name := "CASE_INSENSITIVE_ORDER", type := (.object "java/util/Comparator"), accessFlags := 25, slot := 4, constantValue := 0 }, { name := "LATIN1", type := .byte, accessFlags := 24, slot := 5, constantValue := 0 }, { name := "UTF16", type := .byte, accessFlags := 24, slot := 6, constantValue := 0 }]
  methods := #[k8m0, k8m1, k8m2, k8m3, k8m4, k8m5, k8m6]
  instanceTypes := #[(.array .byte), .byte, .int, .boolean]
  staticTypes := #[.long, .boolean, (.array (.object "java/io/ObjectStreamField")), .char, (.object "java/util/Comparator"), .byte, .byte]
  resolved := Array.replicate 1451 none
  statics := some 0 }

def pool9 : Array CpInfo := pool [(1, .class_ 2), (0, u "java/lang/Appendable"), (0, .class_ 4), (0, u "java/lang/Object")] 9

/-- java/lang/Appendable -/
def k9 : Class := { plain "java/lang/Appendable" (some 0) with
  accessFlags := 1537
  interfaces := #[]
  cf := some (fileOf pool9 1 #[] #[] 1537 3 #[] #[])
  fields := #[]
  methods := #[]
  instanceTypes := #[]
  staticTypes := #[]
  resolved := Array.replicate 14 none
  statics := none }

def pool10 : Array CpInfo := pool [(1, .class_ 2), (0, u "java/lang/String"), (0, .methodref 4 5), (0, .class_ 6), (0, .nameAndType 7 8), (0, u "java/lang/Object"), (0, u "<init>"), (0, u "()V"), (1, .class_ 12), (1, u "java/lang/AbstractStringBuilder"), (0, u "EMPTYVALUE"), (0, u "[B"), (0, .fieldref 10 16), (0, .nameAndType 17 14), (0, u "value"), (0, .fieldref 1 19), (0, .nameAndType 20 21), (0, u "COMPACT_STRINGS"), (0, u "Z"), (0, .fieldref 10 23), (0, .nameAndType 24 25), (0, u "coder"), (0, u "B"), (6, .methodref 1 33), (0, .nameAndType 34 35), (0, u "length"), (0, u "()I"), (0, .class_ 37), (0, u "java/lang/Integer"), (2, .methodref 1 41), (0, .nameAndType 24 42), (0, u "()B"), (2, u "append"), (0, u "(Ljava/lang/String;)Ljava/lang/AbstractStringBuilder;"), (1, .class_ 49), (0, u "java/lang/CharSequence"), (19, u "(Ljava/lang/String;)V"), (5, u "maybeLatin1"), (3, .fieldref 10 80), (0, .nameAndType 81 82), (0, u "count"), (0, u "I"), (0, .methodref 10 84), (0, .nameAndType 85 86), (0, u "isLatin1"), (0, u "()Z"), (13, .methodref 10 101), (0, .nameAndType 102 103), (0, u "ensureCapacityInternal"), (0, u "(I)V"), (3, u "(I)I"), (80, u "getChars"), (19, .methodref 10 209), (0, .nameAndType 210 211), (0, u "putStringAt"), (0, u "(ILjava/lang/String;)V"), (5, u "inflateIfNeededFor"), (2, .nameAndType 221 222), (0, u "getBytes"), (0, u "([BIB)V"), (22, .methodref 36 246), (0, .nameAndType 247 107), (0, u "stringSize"), (0, .methodref 36 249), (0, .nameAndType 188 250), (0, u "(II[B)I"), (146, .methodref 10 398), (0, .nameAndType 217 69), (0, .methodref 1 220), (3, u "()[B"), (40, .class_ 445), (0, u "java/lang/Appendable"), (65, u "(I)Ljava/lang/AbstractStringBuilder;"), (40, u "getValue")] 56

def k10m0 : Method := { name := "<init>", desc := "()V", sig := { parameters := [], returnType := none }, accessFlags := 0, code := none }
def k10c1 : Code := { maxStack := 2, maxLocals := 2, code := jdk_68_method_2_code, exceptionTable := #[], attributes := #[] }
def k10m1 : Method := { name := "<init>", desc := "(I)V", sig := { parameters := [.int], returnType := none }, accessFlags := 0, code := some k10c1 }
def k10c2 : Code := { maxStack := 1, maxLocals := 1, code := jdk_68_method_6_code, exceptionTable := #[], attributes := #[] }
def k10m2 : Method := { name := "length", desc := "()I", sig := { parameters := [], returnType := some .int }, accessFlags := 1, code := some k10c2 }
def k10c3 : Code := { maxStack := 4, maxLocals := 3, code := jdk_68_method_9_code, exceptionTable := #[], attributes := #[] }
def k10m3 : Method := { name := "ensureCapacityInternal", desc := "(I)V", sig := { parameters := [.int], returnType := none }, accessFlags := 2, code := some k10c3 }
def k10c4 : Code := { maxStack := 3, maxLocals := 3, code := jdk_68_method_22_code, exceptionTable := #[], attributes := #[] }
def k10m4 : Method := { name := "append", desc := "(Ljava/lang/String;)Ljava/lang/AbstractStringBuilder;", sig := { parameters := [(.object "java/lang/String")], returnType := some (.object "java/lang/AbstractStringBuilder") }, accessFlags := 1, code := some k10c4 }
def k10c5 : Code := { maxStack := 4, maxLocals := 4, code := jdk_68_method_32_code, exceptionTable := #[], attributes := #[] }
def k10m5 : Method := { name := "append", desc := "(I)Ljava/lang/AbstractStringBuilder;", sig := { parameters := [.int], returnType := some (.object "java/lang/AbstractStringBuilder") }, accessFlags := 1, code := some k10c5 }
def k10c6 : Code := { maxStack := 1, maxLocals := 1, code := jdk_68_method_64_code, exceptionTable := #[], attributes := #[] }
def k10m6 : Method := { name := "getValue", desc := "()[B", sig := { parameters := [], returnType := some (.array .byte) }, accessFlags := 16, code := some k10c6 }
def k10c7 : Code := { maxStack := 1, maxLocals := 1, code := jdk_68_method_68_code, exceptionTable := #[], attributes := #[] }
def k10m7 : Method := { name := "isLatin1", desc := "()Z", sig := { parameters := [], returnType := some .boolean }, accessFlags := 16, code := some k10c7 }
def k10c8 : Code := { maxStack := 2, maxLocals := 2, code := jdk_68_method_71_code, exceptionTable := #[], attributes := #[] }
def k10m8 : Method := { name := "inflateIfNeededFor", desc := "(Ljava/lang/String;)V", sig := { parameters := [(.object "java/lang/String")], returnType := none }, accessFlags := 2, code := some k10c8 }
def k10c9 : Code := { maxStack := 4, maxLocals := 3, code := jdk_68_method_73_code, exceptionTable := #[], attributes := #[] }
def k10m9 : Method := { name := "putStringAt", desc := "(ILjava/lang/String;)V", sig := { parameters := [.int, (.object "java/lang/String")], returnType := none }, accessFlags := 2, code := some k10c9 }
/-- java/lang/AbstractStringBuilder -/
def k10 : Class := { plain "java/lang/AbstractStringBuilder" (some 0) with
  accessFlags := 1056
  interfaces := #[9, 5]
  cf := some (fileOf pool10 10 #[] #[{ accessFlags := 0, nameIndex := 7, descriptorIndex := 8, attributes := #[] }, { accessFlags := 0, nameIndex := 7, descriptorIndex := 103, attributes := #[] }, { accessFlags := 1, nameIndex := 34, descriptorIndex := 35, attributes := #[] }, { accessFlags := 2, nameIndex := 102, descriptorIndex := 103, attributes := #[] }, { accessFlags := 1, nameIndex := 45, descriptorIndex := 46, attributes := #[] }, { accessFlags := 1, nameIndex := 45, descriptorIndex := 511, attributes := #[] }, { accessFlags := 16, nameIndex := 552, descriptorIndex := 403, attributes := #[] }, { accessFlags := 16, nameIndex := 85, descriptorIndex := 86, attributes := #[] }, { accessFlags := 2, nameIndex := 217, descriptorIndex := 69, attributes := #[] }, { accessFlags := 2, nameIndex := 210, descriptorIndex := 211, attributes := #[] }] 1056 4 #[444, 48] #[{ accessFlags := 0, nameIndex := 17, descriptorIndex := 14, attributes := #[] }, { accessFlags := 0, nameIndex := 24, descriptorIndex := 25, attributes := #[] }, { accessFlags := 0, nameIndex := 75, descriptorIndex := 21, attributes := #[] }, { accessFlags := 0, nameIndex := 81, descriptorIndex := 82, attributes := #[] }, { accessFlags := 26, nameIndex := 13, descriptorIndex := 14, attributes := #[] }])
  fields := #[{ name := "value", type := (.array .byte), accessFlags := 0, slot := 0, constantValue := 0 }, { name := "coder", type := .byte, accessFlags := 0, slot := 1, constantValue := 0 }, { name := "maybeLatin1", type := .boolean, accessFlags := 0, slot := 2, constantValue := 0 }, { name := "count", type := .int, accessFlags := 0, slot := 3, constantValue := 0 }, { name := "EMPTYVALUE", type := (.array .byte), accessFlags := 26, slot := 0, constantValue := 0 }]
  methods := #[k10m0, k10m1, k10m2, k10m3, k10m4, k10m5, k10m6, k10m7, k10m8, k10m9]
  instanceTypes := #[(.array .byte), .byte, .boolean, .int]
  staticTypes := #[(.array .byte)]
  resolved := Array.replicate 609 none
  statics := none }

def pool11 : Array CpInfo := pool [(1, .methodref 2 3), (0, .class_ 4), (0, .nameAndType 5 6), (0, u "java/lang/AbstractStringBuilder"), (0, u "<init>"), (0, u "(I)V"), (11, .class_ 20), (1, u "java/lang/String"), (3, .class_ 26), (1, u "java/lang/StringBuilder"), (0, u "append"), (0, u "(Ljava/lang/String;)Ljava/lang/StringBuilder;"), (0, .methodref 2 30), (0, .nameAndType 27 31), (0, u "(Ljava/lang/String;)Ljava/lang/AbstractStringBuilder;"), (21, .methodref 2 54), (0, .nameAndType 27 55), (0, u "(I)Ljava/lang/AbstractStringBuilder;"), (81, .methodref 18 138), (0, .nameAndType 5 139), (0, u "(Ljava/lang/StringBuilder;)V"), (5, u "()V"), (10, u "()I"), (111, u "(I)Ljava/lang/StringBuilder;"), (74, .methodref 2 344), (0, .nameAndType 345 156), (0, u "length"), (3, .class_ 350), (0, u "java/lang/Appendable"), (0, .class_ 352), (0, u "java/io/Serializable"), (0, .class_ 354), (0, u "java/lang/Comparable"), (0, .class_ 356), (0, u "java/lang/CharSequence"), (0, u "serialVersionUID"), (0, u "J"), (40, u "toString"), (0, u "()Ljava/lang/String;")] 21

def k11c0 : Code := { maxStack := 2, maxLocals := 1, code := jdk_67_method_1_code, exceptionTable := #[], attributes := #[] }
def k11m0 : Method := { name := "<init>", desc := "()V", sig := { parameters := [], returnType := none }, accessFlags := 1, code := some k11c0 }
def k11c1 : Code := { maxStack := 2, maxLocals := 2, code := jdk_67_method_2_code, exceptionTable := #[], attributes := #[] }
def k11m1 : Method := { name := "<init>", desc := "(I)V", sig := { parameters := [.int], returnType := none }, accessFlags := 1, code := some k11c1 }
def k11c2 : Code := { maxStack := 2, maxLocals := 2, code := jdk_67_method_7_code, exceptionTable := #[], attributes := #[] }
def k11m2 : Method := { name := "append", desc := "(Ljava/lang/String;)Ljava/lang/StringBuilder;", sig := { parameters := [(.object "java/lang/String")], returnType := some (.object "java/lang/StringBuilder") }, accessFlags := 1, code := some k11c2 }
def k11c3 : Code := { maxStack := 2, maxLocals := 2, code := jdk_67_method_15_code, exceptionTable := #[], attributes := #[] }
def k11m3 : Method := { name := "append", desc := "(I)Ljava/lang/StringBuilder;", sig := { parameters := [.int], returnType := some (.object "java/lang/StringBuilder") }, accessFlags := 1, code := some k11c3 }
def k11c4 : Code := { maxStack := 3, maxLocals := 1, code := jdk_67_method_42_code, exceptionTable := #[], attributes := #[] }
def k11m4 : Method := { name := "toString", desc := "()Ljava/lang/String;", sig := { parameters := [], returnType := some (.object "java/lang/String") }, accessFlags := 1, code := some k11c4 }
def k11c5 : Code := { maxStack := 1, maxLocals := 1, code := jdk_67_method_93_code, exceptionTable := #[], attributes := #[] }
def k11m5 : Method := { name := "length", desc := "()I", sig := { parameters := [], returnType := some .int }, accessFlags := 4161, code := some k11c5 }
/-- java/lang/StringBuilder -/
def k11 : Class := { plain "java/lang/StringBuilder" (some 10) with
  accessFlags := 49
  interfaces := #[9, 3, 4, 5]
  cf := some (fileOf pool11 24 #[] #[{ accessFlags := 1, nameIndex := 5, descriptorIndex := 145, attributes := #[] }, { accessFlags := 1, nameIndex := 5, descriptorIndex := 6, attributes := #[] }, { accessFlags := 1, nameIndex := 27, descriptorIndex := 28, attributes := #[] }, { accessFlags := 1, nameIndex := 27, descriptorIndex := 268, attributes := #[] }, { accessFlags := 1, nameIndex := 399, descriptorIndex := 400, attributes := #[] }, { accessFlags := 4161, nameIndex := 345, descriptorIndex := 156, attributes := #[] }] 49 2 #[349, 351, 353, 355] #[{ accessFlags := 24, nameIndex := 357, descriptorIndex := 358, attributes := #[] }])
  fields := #[{ name := "serialVersionUID", type := .long, accessFlags := 24, slot := 0, constantValue := 0 }]
  methods := #[k11m0, k11m1, k11m2, k11m3, k11m4, k11m5]
  instanceTypes := #[(.array .byte), .byte, .boolean, .int]
  staticTypes := #[.long]
  resolved := Array.replicate 422 none
  statics := none }

def pool12 : Array CpInfo := pool [(2, .class_ 4), (1, u "java/lang/Object"), (0, u "<init>"), (0, u "()V"), (1, .class_ 10), (1, u "java/lang/System"), (0, u "allowSecurityManager"), (0, u "I"), (16, u "cons"), (0, u "Ljava/io/Console;"), (77, .class_ 110), (1, u "java/lang/System$CallersHolder"), (43, u "initialErrStream"), (0, u "Ljava/io/PrintStream;"), (19, u "security"), (0, u "Ljava/lang/SecurityManager;"), (31, .class_ 209), (0, u "java/lang/System$1"), (7, u "props"), (0, u "Ljava/util/Properties;"), (2, u "lineSeparator"), (0, u "Ljava/lang/String;"), (96, .class_ 321), (1, u "java/lang/System$LoggerFinder"), (5, .class_ 328), (0, u "java/lang/System$Logger"), (67, u "err"), (2, u "out"), (91, u "notSupportedJnuEncoding"), (15, u "in"), (17, u "initialIn"), (0, u "Ljava/io/InputStream;"), (35, u "bootLayer"), (0, u "Ljava/lang/ModuleLayer;"), (99, .class_ 664), (0, u "java/lang/System$2"), (9, u "NEVER"), (2, u "MAYBE"), (49, u "arraycopy"), (0, u "(Ljava/lang/Object;ILjava/lang/Object;II)V"), (72, .class_ 802), (0, u "java/lang/System$Logger$Level")] 31

def k12m0 : Method := { name := "<init>", desc := "()V", sig := { parameters := [], returnType := none }, accessFlags := 2, code := none }
def k12m1 : Method := { name := "arraycopy", desc := "(Ljava/lang/Object;ILjava/lang/Object;II)V", sig := { parameters := [(.object "java/lang/Object"), .int, (.object "java/lang/Object"), .int, .int], returnType := none }, accessFlags := 265, code := none }
/-- java/lang/System -/
def k12 : Class := { plain "java/lang/System" (some 0) with
  accessFlags := 49
  interfaces := #[]
  cf := some (fileOf pool12 8 #[.nestMembers #[319, 327, 801, 108, 663, 208]] #[{ accessFlags := 2, nameIndex := 5, descriptorIndex := 6, attributes := #[] }, { accessFlags := 265, nameIndex := 727, descriptorIndex := 728, attributes := #[] }] 49 2 #[] #[{ accessFlags := 25, nameIndex := 507, descriptorIndex := 526, attributes := #[] }, { accessFlags := 25, nameIndex := 399, descriptorIndex := 155, attributes := #[] }, { accessFlags := 25, nameIndex := 396, descriptorIndex := 155, attributes := #[] }, { accessFlags := 10, nameIndex := 525, descriptorIndex := 526, attributes := #[] }, { accessFlags := 26, nameIndex := 674, descriptorIndex := 12, attributes := #[] }, { accessFlags := 26, nameIndex := 677, descriptorIndex := 12, attributes := #[] }, { accessFlags := 10, nameIndex := 11, descriptorIndex := 12, attributes := #[] }, { accessFlags := 74, nameIndex := 175, descriptorIndex := 176, attributes := #[] }, { accessFlags := 10, nameIndex := 491, descriptorIndex := 222, attributes := #[] }, { accessFlags := 74, nameIndex := 29, descriptorIndex := 30, attributes := #[] }, { accessFlags := 74, nameIndex := 154, descriptorIndex := 155, attributes := #[] }, { accessFlags := 10, nameIndex := 217, descriptorIndex := 218, attributes := #[] }, { accessFlags := 10, nameIndex := 221, descriptorIndex := 222, attributes := #[] }, { accessFlags := 8, nameIndex := 562, descriptorIndex := 563, attributes := #[] }])
  fields := #[{ name := "in", type := (.object "java/io/InputStream"), accessFlags := 25, slot := 0, constantValue := 0 }, { name := "out", type := (.object "java/io/PrintStream"), accessFlags := 25, slot := 1, constantValue := 0 }, { name := "err", type := (.object "java/io/PrintStream"), accessFlags := 25, slot := 2, constantValue := 0 }, { name := "initialIn", type := (.object "java/io/InputStream"), accessFlags := 10, slot := 3, constantValue := 0 }, { name := "NEVER", type := .int, accessFlags := 26, slot := 4, constantValue := 0 }, { name := "MAYBE", type := .int, accessFlags := 26, slot := 5, constantValue := 0 }, { name := "allowSecurityManager", type := .int, accessFlags := 10, slot := 6, constantValue := 0 }, { name := "security", type := (.object "java/lang/SecurityManager"), accessFlags := 74, slot := 7, constantValue := 0 }, { name := "notSupportedJnuEncoding", type := (.object "java/lang/String"), accessFlags := 10, slot := 8, constantValue := 0 }, { name := "cons", type := (.object "java/io/Console"), accessFlags := 74, slot := 9, constantValue := 0 }, { name := "initialErrStream", type := (.object "java/io/PrintStream"), accessFlags := 74, slot := 10, constantValue := 0 }, { name := "props", type := (.object "java/util/Properties"), accessFlags := 10, slot := 11, constantValue := 0 }, { name := "lineSeparator", type := (.object "java/lang/String"), accessFlags := 10, slot := 12, constantValue := 0 }, { name := "bootLayer", type := (.object "java/lang/ModuleLayer"), accessFlags := 8, slot := 13, constantValue := 0 }]
  methods := #[k12m0, k12m1]
  instanceTypes := #[]
  staticTypes := #[(.object "java/io/InputStream"), (.object "java/io/PrintStream"), (.object "java/io/PrintStream"), (.object "java/io/InputStream"), .int, .int, .int, (.object "java/lang/SecurityManager"), (.object "java/lang/String"), (.object "java/io/Console"), (.object "java/io/PrintStream"), (.object "java/util/Properties"), (.object "java/lang/String"), (.object "java/lang/ModuleLayer")]
  resolved := Array.replicate 834 none
  statics := none }

def pool13 : Array CpInfo := pool [(4, .class_ 6), (1, u "java/time/temporal/TemporalAccessor"), (95, .class_ 103), (0, u "java/lang/Object")] 21

/-- java/time/temporal/TemporalAccessor -/
def k13 : Class := { plain "java/time/temporal/TemporalAccessor" (some 0) with
  accessFlags := 1537
  interfaces := #[]
  cf := some (fileOf pool13 4 #[] #[] 1537 102 #[] #[])
  fields := #[]
  methods := #[]
  instanceTypes := #[]
  staticTypes := #[]
  resolved := Array.replicate 125 none
  statics := none }

def pool14 : Array CpInfo := pool [(22, .class_ 24), (1, u "java/time/temporal/Temporal"), (2, .class_ 28), (0, u "java/lang/Object"), (0, .class_ 30), (0, u "java/time/temporal/TemporalAccessor")] 25

/-- java/time/temporal/Temporal -/
def k14 : Class := { plain "java/time/temporal/Temporal" (some 0) with
  accessFlags := 1537
  interfaces := #[13]
  cf := some (fileOf pool14 22 #[] #[] 1537 27 #[29] #[])
  fields := #[]
  methods := #[]
  instanceTypes := #[]
  staticTypes := #[]
  resolved := Array.replicate 56 none
  statics := none }

def pool15 : Array CpInfo := pool [(1, .class_ 2), (0, u "java/time/temporal/TemporalAdjuster"), (0, .class_ 4), (0, u "java/lang/Object")] 6

/-- java/time/temporal/TemporalAdjuster -/
def k15 : Class := { plain "java/time/temporal/TemporalAdjuster" (some 0) with
  accessFlags := 1537
  interfaces := #[]
  cf := some (fileOf pool15 1 #[] #[] 1537 3 #[] #[])
  fields := #[]
  methods := #[]
  instanceTypes := #[]
  staticTypes := #[]
  resolved := Array.replicate 11 none
  statics := none }

def pool16 : Array CpInfo := pool [(9, .class_ 10), (0, u "java/time/chrono/ChronoLocalDate"), (104, .class_ 117), (1, u "java/time/temporal/Temporal"), (134, .class_ 253), (0, u "java/lang/Object"), (23, .class_ 278), (0, u "java/time/temporal/TemporalAdjuster"), (0, .class_ 280), (0, u "java/lang/Comparable")] 86

/-- java/time/chrono/ChronoLocalDate -/
def k16 : Class := { plain "java/time/chrono/ChronoLocalDate" (some 0) with
  accessFlags := 1537
  interfaces := #[14, 15, 4]
  cf := some (fileOf pool16 9 #[] #[] 1537 252 #[115, 277, 279] #[])
  fields := #[]
  methods := #[]
  instanceTypes := #[]
  staticTypes := #[]
  resolved := Array.replicate 367 none
  statics := none }

def pool17 : Array CpInfo := pool [(1, .class_ 2), (0, u "java/time/LocalDate"), (37, .class_ 42), (1, u "java/time/temporal/ChronoField"), (1, u "Ljava/time/temporal/ChronoField;"), (0, .methodref 40 46), (0, .nameAndType 47 48), (0, u "checkValidValue"), (0, u "(J)J"), (1, u "month"), (31, .class_ 83), (0, u "java/lang/StringBuilder"), (1, .nameAndType 86 87), (0, u "<init>"), (0, u "()V"), (2, .methodref 82 91), (0, .nameAndType 92 93), (0, u "append"), (0, u "(Ljava/lang/String;)Ljava/lang/StringBuilder;"), (0, .methodref 82 95), (0, .nameAndType 92 96), (0, u "(I)Ljava/lang/StringBuilder;"), (2, .methodref 82 100), (0, .nameAndType 101 102), (0, u "toString"), (0, u "()Ljava/lang/String;"), (18, .methodref 1 122), (0, .nameAndType 86 123), (0, u "(III)V"), (28, .class_ 154), (1, u "java/lang/Math"), (4, u "ofEpochDay"), (0, u "(J)Ljava/time/LocalDate;"), (0, .fieldref 40 162), (0, .nameAndType 163 44), (0, u "EPOCH_DAY"), (0, .long 719528), (1, .long 60), (1, .long 146097), (1, .long 400), (1, .long 591), (1, .long 365), (1, .long 4), (1, .long 100), (64, .methodref 244 85), (0, .class_ 245), (0, u "java/lang/Object"), (0, .fieldref 1 247), (0, .nameAndType 248 249), (0, u "year"), (0, u "I"), (0, .fieldref 1 251), (0, .nameAndType 50 252), (0, u "S"), (0, .fieldref 1 254), (0, .nameAndType 255 252), (0, u "day"), (1, .class_ 259), (1, u "java/time/chrono/ChronoLocalDate"), (10, .class_ 272), (1, u "java/time/LocalDate$1"), (107, .class_ 382), (1, u "java/time/temporal/TemporalAdjuster"), (205, u "MAX"), (0, u "Ljava/time/LocalDate;"), (2, u "MIN"), (104, .methodref 152 698), (0, .nameAndType 699 700), (0, u "abs"), (0, u "(I)I"), (0, .methodref 82 702), (0, .nameAndType 86 703), (0, u "(I)V"), (6, .string 711), (0, u "-0"), (57, u "EPOCH"), (0, .class_ 771), (0, u "java/time/temporal/Temporal"), (0, .class_ 773), (0, u "java/io/Serializable"), (0, u "serialVersionUID"), (0, u "J"), (3, u "DAYS_PER_CYCLE"), (1, u "DAYS_0000_TO_1970")] 206

def k17c0 : Code := { maxStack := 8, maxLocals := 14, code := jdk_2323_method_8_code, exceptionTable := #[], attributes := #[] }
def k17m0 : Method := { name := "ofEpochDay", desc := "(J)Ljava/time/LocalDate;", sig := { parameters := [.long], returnType := some (.object "java/time/LocalDate") }, accessFlags := 9, code := some k17c0 }
def k17c1 : Code := { maxStack := 2, maxLocals := 4, code := jdk_2323_method_14_code, exceptionTable := #[], attributes := #[] }
def k17m1 : Method := { name := "<init>", desc := "(III)V", sig := { parameters := [.int, .int, .int], returnType := none }, accessFlags := 2, code := some k17c1 }
def k17c2 : Code := { maxStack := 3, maxLocals := 6, code := jdk_2323_method_76_code, exceptionTable := #[], attributes := #[] }
def k17m2 : Method := { name := "toString", desc := "()Ljava/lang/String;", sig := { parameters := [], returnType := some (.object "java/lang/String") }, accessFlags := 1, code := some k17c2 }
/-- java/time/LocalDate -/
def k17 : Class := { plain "java/time/LocalDate" (some 0) with
  accessFlags := 49
  interfaces := #[14, 15, 16, 3]
  cf := some (fileOf pool17 1 #[.nestMembers #[270]] #[{ accessFlags := 9, nameIndex := 159, descriptorIndex := 160, attributes := #[] }, { accessFlags := 2, nameIndex := 86, descriptorIndex := 123, attributes := #[] }, { accessFlags := 1, nameIndex := 101, descriptorIndex := 102, attributes := #[] }] 49 244 #[770, 380, 257, 772] #[{ accessFlags := 25, nameIndex := 592, descriptorIndex := 589, attributes := #[] }, { accessFlags := 25, nameIndex := 588, descriptorIndex := 589, attributes := #[] }, { accessFlags := 25, nameIndex := 769, descriptorIndex := 589, attributes := #[] }, { accessFlags := 26, nameIndex := 774, descriptorIndex := 775, attributes := #[] }, { accessFlags := 26, nameIndex := 779, descriptorIndex := 249, attributes := #[] }, { accessFlags := 24, nameIndex := 781, descriptorIndex := 775, attributes := #[] }, { accessFlags := 18, nameIndex := 248, descriptorIndex := 249, attributes := #[] }, { accessFlags := 18, nameIndex := 50, descriptorIndex := 252, attributes := #[] }, { accessFlags := 18, nameIndex := 255, descriptorIndex := 252, attributes := #[] }])
  fields := #[{ name := "MIN", type := (.object "java/time/LocalDate"), accessFlags := 25, slot := 0, constantValue := 0 }, { name := "MAX", type := (.object "java/time/LocalDate"), accessFlags := 25, slot := 1, constantValue := 0 }, { name := "EPOCH", type := (.object "java/time/LocalDate"), accessFlags := 25, slot := 2, constantValue := 0 }, { name := "serialVersionUID", type := .long, accessFlags := 26, slot := 3, constantValue := 0 }, { name := "DAYS_PER_CYCLE", type := .int, accessFlags := 26, slot := 4, constantValue := 0 }, { name := "DAYS_0000_TO_1970", type := .long, accessFlags := 24, slot := 5, constantValue := 0 }, { name := "year", type := .int, accessFlags := 18, slot := 0, constantValue := 0 }, { name := "month", type := .short, accessFlags := 18, slot := 1, constantValue := 0 }, { name := "day", type := .short, accessFlags := 18, slot := 2, constantValue := 0 }]
  methods := #[k17m0, k17m1, k17m2]
  instanceTypes := #[.int, .short, .short]
  staticTypes := #[(.object "java/time/LocalDate"), (.object "java/time/LocalDate"), (.object "java/time/LocalDate"), .long, .int, .long]
  resolved := Array.replicate 988 none
  statics := none }

def pool18 : Array CpInfo := pool [(2, .class_ 4), (1, u "java/lang/Enum"), (0, u "name"), (0, u "Ljava/lang/String;"), (2, u "ordinal"), (0, u "I"), (1, .class_ 14), (1, u "java/lang/Object"), (4, u "hash"), (86, .class_ 108), (1, u "java/lang/Enum$EnumDesc"), (2, .class_ 112), (0, u "java/lang/constant/Constable"), (0, .class_ 114), (0, u "java/lang/Comparable"), (0, .class_ 116), (0, u "java/io/Serializable")] 87

/-- java/lang/Enum -/
def k18 : Class := { plain "java/lang/Enum" (some 0) with
  accessFlags := 1057
  interfaces := #[6, 4, 3]
  cf := some (fileOf pool18 2 #[.nestMembers #[106]] #[] 1057 12 #[111, 113, 115] #[{ accessFlags := 18, nameIndex := 5, descriptorIndex := 6, attributes := #[] }, { accessFlags := 18, nameIndex := 9, descriptorIndex := 10, attributes := #[] }, { accessFlags := 2, nameIndex := 19, descriptorIndex := 10, attributes := #[] }])
  fields := #[{ name := "name", type := (.object "java/lang/String"), accessFlags := 18, slot := 0, constantValue := 0 }, { name := "ordinal", type := .int, accessFlags := 18, slot := 1, constantValue := 0 }, { name := "hash", type := .int, accessFlags := 2, slot := 2, constantValue := 0 }]
  methods := #[]
  instanceTypes := #[(.object "java/lang/String"), .int, .int]
  staticTypes := #[]
  resolved := Array.replicate 204 none
  statics := none }

def pool19 : Array CpInfo := pool [(10, .class_ 12), (1, u "java/time/temporal/TemporalField"), (2, .class_ 16), (0, u "java/lang/Object")] 39

/-- java/time/temporal/TemporalField -/
def k19 : Class := { plain "java/time/temporal/TemporalField" (some 0) with
  accessFlags := 1537
  interfaces := #[]
  cf := some (fileOf pool19 10 #[] #[] 1537 15 #[] #[])
  fields := #[]
  methods := #[]
  instanceTypes := #[]
  staticTypes := #[]
  resolved := Array.replicate 56 none
  statics := none }

def pool20 : Array CpInfo := pool [(1, .class_ 2), (0, u "java/time/temporal/ChronoField"), (2, u "NANO_OF_SECOND"), (0, u "Ljava/time/temporal/ChronoField;"), (2, u "NANO_OF_DAY"), (2, u "MICRO_OF_SECOND"), (2, u "MICRO_OF_DAY"), (2, u "MILLI_OF_SECOND"), (2, u "MILLI_OF_DAY"), (2, u "SECOND_OF_MINUTE"), (2, u "SECOND_OF_DAY"), (2, u "MINUTE_OF_HOUR"), (2, u "MINUTE_OF_DAY"), (2, u "HOUR_OF_AMPM"), (2, u "CLOCK_HOUR_OF_AMPM"), (2, u "HOUR_OF_DAY"), (2, u "CLOCK_HOUR_OF_DAY"), (2, u "AMPM_OF_DAY"), (2, u "DAY_OF_WEEK"), (2, u "ALIGNED_DAY_OF_WEEK_IN_MONTH"), (2, u "ALIGNED_DAY_OF_WEEK_IN_YEAR"), (2, u "DAY_OF_MONTH"), (2, u "DAY_OF_YEAR"), (2, u "EPOCH_DAY"), (2, u "ALIGNED_WEEK_OF_MONTH"), (2, u "ALIGNED_WEEK_OF_YEAR"), (2, u "MONTH_OF_YEAR"), (2, u "PROLEPTIC_MONTH"), (2, u "YEAR_OF_ERA"), (2, u "YEAR"), (2, u "ERA"), (2, u "INSTANT_SECONDS"), (2, u "OFFSET_SECONDS"), (2, u "$VALUES"), (0, u "[Ljava/time/temporal/ChronoField;"), (6, .class_ 106), (1, u "java/lang/Enum"), (8, u "name"), (0, u "Ljava/lang/String;"), (2, u "baseUnit"), (0, u "Ljava/time/temporal/TemporalUnit;"), (2, u "rangeUnit"), (0, .fieldref 1 125), (0, .nameAndType 126 127), (0, u "range"), (0, u "Ljava/time/temporal/ValueRange;"), (2, u "displayNameKey"), (59, .methodref 1 191), (0, .nameAndType 126 192), (0, u "()Ljava/time/temporal/ValueRange;"), (0, .methodref 194 195), (0, .class_ 196), (0, .nameAndType 197 198), (0, u "java/time/temporal/ValueRange"), (0, u "checkValidValue"), (0, u "(JLjava/time/temporal/TemporalField;)J"), (256, .class_ 456), (0, u "java/time/temporal/TemporalField"), (27, u "(J)J")] 22

def k20c0 : Code := { maxStack := 1, maxLocals := 1, code := jdk_2395_method_8_code, exceptionTable := #[], attributes := #[] }
def k20m0 : Method := { name := "range", desc := "()Ljava/time/temporal/ValueRange;", sig := { parameters := [], returnType := some (.object "java/time/temporal/ValueRange") }, accessFlags := 1, code := some k20c0 }
def k20c1 : Code := { maxStack := 4, maxLocals := 3, code := jdk_2395_method_11_code, exceptionTable := #[], attributes := #[] }
def k20m1 : Method := { name := "checkValidValue", desc := "(J)J", sig := { parameters := [.long], returnType := some .long }, accessFlags := 1, code := some k20c1 }
/-- java/time/temporal/ChronoField -/
def k20 : Class := { plain "java/time/temporal/ChronoField" (some 18) with
  accessFlags := 16433
  interfaces := #[19]
  cf := some (fileOf pool20 1 #[] #[{ accessFlags := 1, nameIndex := 126, descriptorIndex := 192, attributes := #[] }, { accessFlags := 1, nameIndex := 197, descriptorIndex := 484, attributes := #[] }] 16433 104 #[455] #[{ accessFlags := 16409, nameIndex := 5, descriptorIndex := 6, attributes := #[] }, { accessFlags := 16409, nameIndex := 9, descriptorIndex := 6, attributes := #[] }, { accessFlags := 16409, nameIndex := 12, descriptorIndex := 6, attributes := #[] }, { accessFlags := 16409, nameIndex := 15, descriptorIndex := 6, attributes := #[] }, { accessFlags := 16409, nameIndex := 18, descriptorIndex := 6, attributes := #[] }, { accessFlags := 16409, nameIndex := 21, descriptorIndex := 6, attributes := #[] }, { accessFlags := 16409, nameIndex := 24, descriptorIndex := 6, attributes := #[] }, { accessFlags := 16409, nameIndex := 27, descriptorIndex := 6, attributes := #[] }, { accessFlags := 16409, nameIndex := 30, descriptorIndex := 6, attributes := #[] }, { accessFlags := 16409, nameIndex := 33, descriptorIndex := 6, attributes := #[] }, { accessFlags := 16409, nameIndex := 36, descriptorIndex := 6, attributes := #[] }, { accessFlags := 16409, nameIndex := 39, descriptorIndex := 6, attributes := #[] }, { accessFlags := 16409, nameIndex := 42, descriptorIndex := 6, attributes := #[] }, { accessFlags := 16409, nameIndex := 45, descriptorIndex := 6, attributes := #[] }, { accessFlags := 16409, nameIndex := 48, descriptorIndex := 6, attributes := #[] }, { accessFlags := 16409, nameIndex := 51, descriptorIndex := 6, attributes := #[] }, { accessFlags := 16409, nameIndex := 54, descriptorIndex := 6, attributes := #[] }, { accessFlags := 16409, nameIndex := 57, descriptorIndex := 6, attributes := #[] }, { accessFlags := 16409, nameIndex := 60, descriptorIndex := 6, attributes := #[] }, { accessFlags := 16409, nameIndex := 63, descriptorIndex := 6, attributes := #[] }, { accessFlags := 16409, nameIndex := 66, descriptorIndex := 6, attributes := #[] }, { accessFlags := 16409, nameIndex := 69, descriptorIndex := 6, attributes := #[] }, { accessFlags := 16409, nameIndex := 72, descriptorIndex := 6, attributes := #[] }, { accessFlags := 16409, nameIndex := 75, descriptorIndex := 6, attributes := #[] }, { accessFlags := 16409, nameIndex := 78, descriptorIndex := 6, attributes := #[] }, { accessFlags := 16409, nameIndex := 81, descriptorIndex := 6, attributes := #[] }, { accessFlags := 16409, nameIndex := 84, descriptorIndex := 6, attributes := #[] }, { accessFlags := 16409, nameIndex := 87, descriptorIndex := 6, attributes := #[] }, { accessFlags := 16409, nameIndex := 90, descriptorIndex := 6, attributes := #[] }, { accessFlags := 16409, nameIndex := 93, descriptorIndex := 6, attributes := #[] }, { accessFlags := 18, nameIndex := 115, descriptorIndex := 116, attributes := #[] }, { accessFlags := 18, nameIndex := 119, descriptorIndex := 120, attributes := #[] }, { accessFlags := 18, nameIndex := 123, descriptorIndex := 120, attributes := #[] }, { accessFlags := 18, nameIndex := 126, descriptorIndex := 127, attributes := #[] }, { accessFlags := 18, nameIndex := 130, descriptorIndex := 116, attributes := #[] }, { accessFlags := 4122, nameIndex := 96, descriptorIndex := 97, attributes := #[] }])
  fields := #[{ name := "NANO_OF_SECOND", type := (.object "java/time/temporal/ChronoField"), accessFlags := 16409, slot := 0, constantValue := 0 }, { name := "NANO_OF_DAY", type := (.object "java/time/temporal/ChronoField"), accessFlags := 16409, slot := 1, constantValue := 0 }, { name := "MICRO_OF_SECOND", type := (.object "java/time/temporal/ChronoField"), accessFlags := 16409, slot := 2, constantValue := 0 }, { name := "MICRO_OF_DAY", type := (.object "java/time/temporal/ChronoField"), accessFlags := 16409, slot := 3, constantValue := 0 }, { name := "MILLI_OF_SECOND", type := (.object "java/time/temporal/ChronoField"), accessFlags := 16409, slot := 4, constantValue := 0 }, { name := "MILLI_OF_DAY", type := (.object "java/time/temporal/ChronoField"), accessFlags := 16409, slot := 5, constantValue := 0 }, { name := "SECOND_OF_MINUTE", type := (.object "java/time/temporal/ChronoField"), accessFlags := 16409, slot := 6, constantValue := 0 }, { name := "SECOND_OF_DAY", type := (.object "java/time/temporal/ChronoField"), accessFlags := 16409, slot := 7, constantValue := 0 }, { name := "MINUTE_OF_HOUR", type := (.object "java/time/temporal/ChronoField"), accessFlags := 16409, slot := 8, constantValue := 0 }, { name := "MINUTE_OF_DAY", type := (.object "java/time/temporal/ChronoField"), accessFlags := 16409, slot := 9, constantValue := 0 }, { name := "HOUR_OF_AMPM", type := (.object "java/time/temporal/ChronoField"), accessFlags := 16409, slot := 10, constantValue := 0 }, { name := "CLOCK_HOUR_OF_AMPM", type := (.object "java/time/temporal/ChronoField"), accessFlags := 16409, slot := 11, constantValue := 0 }, { name := "HOUR_OF_DAY", type := (.object "java/time/temporal/ChronoField"), accessFlags := 16409, slot := 12, constantValue := 0 }, { name := "CLOCK_HOUR_OF_DAY", type := (.object "java/time/temporal/ChronoField"), accessFlags := 16409, slot := 13, constantValue := 0 }, { name := "AMPM_OF_DAY", type := (.object "java/time/temporal/ChronoField"), accessFlags := 16409, slot := 14, constantValue := 0 }, { name := "DAY_OF_WEEK", type := (.object "java/time/temporal/ChronoField"), accessFlags := 16409, slot := 15, constantValue := 0 }, { name := "ALIGNED_DAY_OF_WEEK_IN_MONTH", type := (.object "java/time/temporal/ChronoField"), accessFlags := 16409, slot := 16, constantValue := 0 }, { name := "ALIGNED_DAY_OF_WEEK_IN_YEAR", type := (.object "java/time/temporal/ChronoField"), accessFlags := 16409, slot := 17, constantValue := 0 }, { name := "DAY_OF_MONTH", type := (.object "java/time/temporal/ChronoField"), accessFlags := 16409, slot := 18, constantValue := 0 }, { name := "DAY_OF_YEAR", type := (.object "java/time/temporal/ChronoField"), accessFlags := 16409, slot := 19, constantValue := 0 }, { name := "EPOCH_DAY", type := (.object "java/time/temporal/ChronoField"), accessFlags := 16409, slot := 20, constantValue := 0 }, { name := "ALIGNED_WEEK_OF_MONTH", type := (.object "java/time/temporal/ChronoField"), accessFlags := 16409, slot := 21, constantValue := 0 }, { name := "ALIGNED_WEEK_OF_YEAR", type := (.object "java/time/temporal/ChronoField"), accessFlags := 16409, slot := 22, constantValue := 0 }, { name := "MONTH_OF_YEAR", type := (.object "java/time/temporal/ChronoField"), accessFlags := 16409, slot := 23, constantValue := 0 }, { name := "PROLEPTIC_MONTH", type := (.object "java/time/temporal/ChronoField"), accessFlags := 16409, slot := 24, constantValue := 0 }, { name := "YEAR_OF_ERA", type := (.object "java/time/temporal/ChronoField"), accessFlags := 16409, slot := 25, constantValue := 0 }, { name := "YEAR", type := (.object "java/time/temporal/ChronoField"), accessFlags := 16409, slot := 26, constantValue := 0 }, { name := "ERA", type := (.object "java/time/temporal/ChronoField"), accessFlags := 16409, slot := 27, constantValue := 0 }, { name := "INSTANT_SECONDS", type := (.object "java/time/temporal/ChronoField"), accessFlags := 16409, slot := 28, constantValue := 0 }, { name := "OFFSET_SECONDS", type := (.object "java/time/temporal/ChronoField"), accessFlags := 16409, slot := 29, constantValue := 0 }, { name := "name", type := (.object "java/lang/String"), accessFlags := 18, slot := 3, constantValue := 0 }, { name := "baseUnit", type := (.object "java/time/temporal/TemporalUnit"), accessFlags := 18, slot := 4, constantValue := 0 }, { name := "rangeUnit", type := (.object "java/time/temporal/TemporalUnit"), accessFlags := 18, slot := 5, constantValue := 0 }, { name := "range", type := (.object "java/time/temporal/ValueRange"), accessFlags := 18, slot := 6, constantValue := 0 }, { name := "displayNameKey", type := (.object "java/lang/String"), accessFlags := 18, slot := 7, constantValue := 0 }, { name := "$VALUES", type := (.array (.object "java/time/temporal/ChronoField")), accessFlags := 4122, slot := 30, constantValue := 0 }]
  methods := #[k20m0, k20m1]
  instanceTypes := #[(.object "java/lang/String"), .int, .int, (.object "java/lang/String"), (.object "java/time/temporal/TemporalUnit"), (.object "java/time/temporal/TemporalUnit"), (.object "java/time/temporal/ValueRange"), (.object "java/lang/String")]
  staticTypes := #[(.object "java/time/temporal/ChronoField"), (.object "java/time/temporal/ChronoField"), (.object "java/time/temporal/ChronoField"), (.object "java/time/temporal/ChronoField"), (.object "java/time/temporal/ChronoField"), (.object "java/time/temporal/ChronoField"), (.object "java/time/temporal/ChronoField"), (.object "java/time/temporal/ChronoField"), (.object "java/time/temporal/ChronoField"), (.object "java/time/temporal/ChronoField"), (.object "java/time/temporal/ChronoField"), (.object "java/time/temporal/ChronoField"), (.object "java/time/temporal/ChronoField"), (.object "java/time/temporal/ChronoField"), (.object "java/time/temporal/ChronoField"), (.object "java/time/temporal/ChronoField"), (.object "java/time/temporal/ChronoField"), (.object "java/time/temporal/ChronoField"), (.object "java/time/temporal/ChronoField"), (.object "java/time/temporal/ChronoField"), (.object "java/time/temporal/ChronoField"), (.object "java/time/temporal/ChronoField"), (.object "java/time/temporal/ChronoField"), (.object "java/time/temporal/ChronoField"), (.object "java/time/temporal/ChronoField"), (.object "java/time/temporal/ChronoField"), (.object "java/time/temporal/ChronoField"), (.object "java/time/temporal/ChronoField"), (.object "java/time/temporal/ChronoField"), (.object "java/time/temporal/ChronoField"), (.array (.object "java/time/temporal/ChronoField"))]
  resolved := Array.replicate 507 none
  statics := some 1 }

def pool21 : Array CpInfo := pool [(9, .class_ 10), (0, u "java/time/temporal/ValueRange"), (18, .class_ 31), (1, u "java/lang/Object"), (1, .fieldref 9 34), (0, .nameAndType 35 36), (0, u "minSmallest"), (0, u "J"), (2, u "minLargest"), (2, u "maxSmallest"), (0, .fieldref 9 44), (0, .nameAndType 45 36), (0, u "maxLargest"), (0, .methodref 9 47), (0, .nameAndType 48 49), (0, u "getMinimum"), (0, u "()J"), (4, .methodref 9 55), (0, .nameAndType 56 49), (0, u "getMaximum"), (6, .methodref 9 64), (0, .nameAndType 65 66), (0, u "isValidValue"), (0, u "(J)Z"), (54, .class_ 122), (0, u "java/io/Serializable"), (0, u "serialVersionUID"), (17, u "checkValidValue"), (0, u "(JLjava/time/temporal/TemporalField;)J")] 24

def k21c0 : Code := { maxStack := 2, maxLocals := 1, code := jdk_2423_method_6_code, exceptionTable := #[], attributes := #[] }
def k21m0 : Method := { name := "getMinimum", desc := "()J", sig := { parameters := [], returnType := some .long }, accessFlags := 1, code := some k21c0 }
def k21c1 : Code := { maxStack := 2, maxLocals := 1, code := jdk_2423_method_9_code, exceptionTable := #[], attributes := #[] }
def k21m1 : Method := { name := "getMaximum", desc := "()J", sig := { parameters := [], returnType := some .long }, accessFlags := 1, code := some k21c1 }
def k21c2 : Code := { maxStack := 4, maxLocals := 3, code := jdk_2423_method_11_code, exceptionTable := #[], attributes := #[] }
def k21m2 : Method := { name := "isValidValue", desc := "(J)Z", sig := { parameters := [.long], returnType := some .boolean }, accessFlags := 1, code := some k21c2 }
def k21c3 : Code := { maxStack := 6, maxLocals := 4, code := jdk_2423_method_13_code, exceptionTable := #[], attributes := #[] }
def k21m3 : Method := { name := "checkValidValue", desc := "(JLjava/time/temporal/TemporalField;)J", sig := { parameters := [.long, (.object "java/time/temporal/TemporalField")], returnType := some .long }, accessFlags := 1, code := some k21c3 }
/-- java/time/temporal/ValueRange -/
def k21 : Class := { plain "java/time/temporal/ValueRange" (some 0) with
  accessFlags := 49
  interfaces := #[3]
  cf := some (fileOf pool21 9 #[] #[{ accessFlags := 1, nameIndex := 48, descriptorIndex := 49, attributes := #[] }, { accessFlags := 1, nameIndex := 56, descriptorIndex := 49, attributes := #[] }, { accessFlags := 1, nameIndex := 65, descriptorIndex := 66, attributes := #[] }, { accessFlags := 1, nameIndex := 141, descriptorIndex := 142, attributes := #[] }] 49 29 #[121] #[{ accessFlags := 26, nameIndex := 123, descriptorIndex := 36, attributes := #[] }, { accessFlags := 18, nameIndex := 35, descriptorIndex := 36, attributes := #[] }, { accessFlags := 18, nameIndex := 39, descriptorIndex := 36, attributes := #[] }, { accessFlags := 18, nameIndex := 42, descriptorIndex := 36, attributes := #[] }, { accessFlags := 18, nameIndex := 45, descriptorIndex := 36, attributes := #[] }])
  fields := #[{ name := "serialVersionUID", type := .long, accessFlags := 26, slot := 0, constantValue := 0 }, { name := "minSmallest", type := .long, accessFlags := 18, slot := 0, constantValue := 0 }, { name := "minLargest", type := .long, accessFlags := 18, slot := 1, constantValue := 0 }, { name := "maxSmallest", type := .long, accessFlags := 18, slot := 2, constantValue := 0 }, { name := "maxLargest", type := .long, accessFlags := 18, slot := 3, constantValue := 0 }]
  methods := #[k21m0, k21m1, k21m2, k21m3]
  instanceTypes := #[.long, .long, .long, .long]
  staticTypes := #[.long]
  resolved := Array.replicate 167 none
  statics := none }

def pool22 : Array CpInfo := pool [(1, .class_ 2), (0, u "java/lang/Math"), (1, .class_ 6), (1, u "java/lang/Object"), (0, u "<init>"), (0, u "()V"), (89, .class_ 100), (1, u "java/lang/Math$RandomNumberGeneratorHolder"), (23, u "abs"), (34, u "(I)I"), (12, u "negativeZeroFloatBits"), (0, u "J"), (2, u "negativeZeroDoubleBits"), (24, u "min"), (43, u "$assertionsDisabled"), (0, u "Z"), (88, u "(II)I"), (2, u "twoToTheDoubleScaleDown"), (0, u "D"), (4, u "twoToTheDoubleScaleUp"), (9, u "E"), (3, u "PI"), (2, u "TAU"), (2, u "DEGREES_TO_RADIANS"), (0, u "RADIANS_TO_DEGREES")] 94

def k22m0 : Method := { name := "<init>", desc := "()V", sig := { parameters := [], returnType := none }, accessFlags := 2, code := none }
def k22c1 : Code := { maxStack := 1, maxLocals := 1, code := jdk_29_method_59_code, exceptionTable := #[], attributes := #[] }
def k22m1 : Method := { name := "abs", desc := "(I)I", sig := { parameters := [.int], returnType := some .int }, accessFlags := 9, code := some k22c1 }
def k22c2 : Code := { maxStack := 2, maxLocals := 2, code := jdk_29_method_69_code, exceptionTable := #[], attributes := #[] }
def k22m2 : Method := { name := "min", desc := "(II)I", sig := { parameters := [.int, .int], returnType := some .int }, accessFlags := 9, code := some k22c2 }
/-- java/lang/Math -/
def k22 : Class := { plain "java/lang/Math" (some 0) with
  accessFlags := 49
  interfaces := #[]
  cf := some (fileOf pool22 1 #[.nestMembers #[98]] #[{ accessFlags := 2, nameIndex := 7, descriptorIndex := 8, attributes := #[] }, { accessFlags := 9, nameIndex := 124, descriptorIndex := 159, attributes := #[] }, { accessFlags := 9, nameIndex := 201, descriptorIndex := 335, attributes := #[] }] 49 4 #[] #[{ accessFlags := 25, nameIndex := 354, descriptorIndex := 339, attributes := #[] }, { accessFlags := 25, nameIndex := 358, descriptorIndex := 339, attributes := #[] }, { accessFlags := 25, nameIndex := 361, descriptorIndex := 339, attributes := #[] }, { accessFlags := 26, nameIndex := 364, descriptorIndex := 339, attributes := #[] }, { accessFlags := 26, nameIndex := 365, descriptorIndex := 339, attributes := #[] }, { accessFlags := 26, nameIndex := 172, descriptorIndex := 173, attributes := #[] }, { accessFlags := 26, nameIndex := 176, descriptorIndex := 173, attributes := #[] }, { accessFlags := 8, nameIndex := 344, descriptorIndex := 339, attributes := #[] }, { accessFlags := 8, nameIndex := 338, descriptorIndex := 339, attributes := #[] }, { accessFlags := 4120, nameIndex := 245, descriptorIndex := 246, attributes := #[] }])
  fields := #[{ name := "E", type := .double, accessFlags := 25, slot := 0, constantValue := 0 }, { name := "PI", type := .double, accessFlags := 25, slot := 1, constantValue := 0 }, { name := "TAU", type := .double, accessFlags := 25, slot := 2, constantValue := 0 }, { name := "DEGREES_TO_RADIANS", type := .double, accessFlags := 26, slot := 3, constantValue := 0 }, { name := "RADIANS_TO_DEGREES", type := .double, accessFlags := 26, slot := 4, constantValue := 0 }, { name := "negativeZeroFloatBits", type := .long, accessFlags := 26, slot := 5, constantValue := 0 }, { name := "negativeZeroDoubleBits", type := .long, accessFlags := 26, slot := 6, constantValue := 0 }, { name := "twoToTheDoubleScaleUp", type := .double, accessFlags := 8, slot := 7, constantValue := 0 }, { name := "twoToTheDoubleScaleDown", type := .double, accessFlags := 8, slot := 8, constantValue := 0 }, { name := "$assertionsDisabled", type := .boolean, accessFlags := 4120, slot := 9, constantValue := 0 }]
  methods := #[k22m0, k22m1, k22m2]
  instanceTypes := #[]
  staticTypes := #[.double, .double, .double, .double, .double, .long, .long, .double, .double, .boolean]
  resolved := Array.replicate 460 none
  statics := none }

def pool23 : Array CpInfo := pool [(2, .class_ 4), (1, u "java/lang/Object"), (0, u "<init>"), (0, u "()V"), (1, .class_ 10), (1, u "java/lang/Number"), (2, .class_ 14), (0, u "java/io/Serializable"), (0, u "serialVersionUID"), (0, u "J")] 20

def k23m0 : Method := { name := "<init>", desc := "()V", sig := { parameters := [], returnType := none }, accessFlags := 1, code := none }
/-- java/lang/Number -/
def k23 : Class := { plain "java/lang/Number" (some 0) with
  accessFlags := 1057
  interfaces := #[3]
  cf := some (fileOf pool23 8 #[] #[{ accessFlags := 1, nameIndex := 5, descriptorIndex := 6, attributes := #[] }] 1057 2 #[13] #[{ accessFlags := 26, nameIndex := 15, descriptorIndex := 16, attributes := #[] }])
  fields := #[{ name := "serialVersionUID", type := .long, accessFlags := 26, slot := 0, constantValue := 0 }]
  methods := #[k23m0]
  instanceTypes := #[]
  staticTypes := #[.long]
  resolved := Array.replicate 37 none
  statics := none }

def pool24 : Array CpInfo := pool [(1, .class_ 2), (0, u "java/lang/Integer"), (16, u "digits"), (0, u "[C"), (33, u "(I)I"), (19, u "stringSize"), (2, u "getChars"), (0, u "(II[B)I"), (4, .fieldref 1 84), (0, .nameAndType 85 86), (0, u "DigitOnes"), (0, u "[B"), (0, .fieldref 1 88), (0, .nameAndType 89 86), (0, u "DigitTens"), (99, .class_ 190), (0, u "java/lang/Integer$IntegerCache"), (3, u "I"), (8, .class_ 204), (0, u "java/lang/Number"), (2, u "value"), (94, u "TYPE"), (0, u "Ljava/lang/Class;"), (0, .class_ 305), (0, u "java/lang/Comparable"), (0, .class_ 307), (0, u "java/lang/constant/Constable"), (0, .class_ 309), (0, u "java/lang/constant/ConstantDesc"), (0, u "MIN_VALUE"), (1, u "MAX_VALUE"), (3, u "SIZE"), (1, u "BYTES"), (1, u "serialVersionUID"), (0, u "J")] 131

def k24c0 : Code := { maxStack := 4, maxLocals := 7, code := jdk_33_method_12_code, exceptionTable := #[], attributes := #[] }
def k24m0 : Method := { name := "getChars", desc := "(II[B)I", sig := { parameters := [.int, .int, (.array .byte)], returnType := some .int }, accessFlags := 8, code := some k24c0 }
def k24c1 : Code := { maxStack := 2, maxLocals := 4, code := jdk_33_method_13_code, exceptionTable := #[], attributes := #[] }
def k24m1 : Method := { name := "stringSize", desc := "(I)I", sig := { parameters := [.int], returnType := some .int }, accessFlags := 8, code := some k24c1 }
/-- java/lang/Integer -/
def k24 : Class := { plain "java/lang/Integer" (some 23) with
  accessFlags := 49
  interfaces := #[4, 6, 7]
  cf := some (fileOf pool24 1 #[.nestMembers #[189]] #[{ accessFlags := 8, nameIndex := 77, descriptorIndex := 78, attributes := #[] }, { accessFlags := 8, nameIndex := 74, descriptorIndex := 54, attributes := #[] }] 49 203 #[304, 306, 308] #[{ accessFlags := 25, nameIndex := 310, descriptorIndex := 194, attributes := #[] }, { accessFlags := 25, nameIndex := 312, descriptorIndex := 194, attributes := #[] }, { accessFlags := 25, nameIndex := 302, descriptorIndex := 303, attributes := #[] }, { accessFlags := 24, nameIndex := 19, descriptorIndex := 20, attributes := #[] }, { accessFlags := 24, nameIndex := 89, descriptorIndex := 86, attributes := #[] }, { accessFlags := 24, nameIndex := 85, descriptorIndex := 86, attributes := #[] }, { accessFlags := 18, nameIndex := 207, descriptorIndex := 194, attributes := #[] }, { accessFlags := 25, nameIndex := 316, descriptorIndex := 194, attributes := #[] }, { accessFlags := 25, nameIndex := 318, descriptorIndex := 194, attributes := #[] }, { accessFlags := 26, nameIndex := 320, descriptorIndex := 321, attributes := #[] }])
  fields := #[{ name := "MIN_VALUE", type := .int, accessFlags := 25, slot := 0, constantValue := 0 }, { name := "MAX_VALUE", type := .int, accessFlags := 25, slot := 1, constantValue := 0 }, { name := "TYPE", type := (.object "java/lang/Class"), accessFlags := 25, slot := 2, constantValue := 0 }, { name := "digits", type := (.array .char), accessFlags := 24, slot := 3, constantValue := 0 }, { name := "DigitTens", type := (.array .byte), accessFlags := 24, slot := 4, constantValue := 0 }, { name := "DigitOnes", type := (.array .byte), accessFlags := 24, slot := 5, constantValue := 0 }, { name := "value", type := .int, accessFlags := 18, slot := 0, constantValue := 0 }, { name := "SIZE", type := .int, accessFlags := 25, slot := 6, constantValue := 0 }, { name := "BYTES", type := .int, accessFlags := 25, slot := 7, constantValue := 0 }, { name := "serialVersionUID", type := .long, accessFlags := 26, slot := 8, constantValue := 0 }]
  methods := #[k24m0, k24m1]
  instanceTypes := #[.int]
  staticTypes := #[.int, .int, (.object "java/lang/Class"), (.array .char), (.array .byte), (.array .byte), .int, .int, .long]
  resolved := Array.replicate 453 none
  statics := some 2 }

def pool25 : Array CpInfo := pool [(2, .class_ 4), (1, u "java/lang/Object"), (0, u "<init>"), (0, u "()V"), (7, .class_ 16), (1, u "java/util/Arrays"), (57, .class_ 76), (1, u "java/util/Arrays$NaturalOrder"), (32, u "()Ljava/lang/Object;"), (3, .class_ 115), (1, u "java/util/Arrays$LegacyMergeSort"), (1, u "Z"), (10, .nameAndType 129 109), (0, u "clone"), (9, u "copyOfRange"), (10, .methodref 151 152), (0, .class_ 153), (0, .nameAndType 154 155), (0, u "java/lang/System"), (0, u "arraycopy"), (0, u "(Ljava/lang/Object;ILjava/lang/Object;II)V"), (148, .methodref 305 306), (0, .class_ 307), (0, .nameAndType 308 309), (0, u "java/lang/Math"), (0, u "min"), (0, u "(II)I"), (0, .methodref 311 128), (0, .class_ 312), (0, u "[B"), (26, .methodref 14 340), (0, .nameAndType 341 342), (0, u "copyOfRangeByte"), (0, u "([BII)[B"), (0, .methodref 14 344), (0, .nameAndType 345 346), (0, u "checkLength"), (0, u "(II)V"), (28, .class_ 376), (0, u "java/util/Arrays$ArrayList"), (68, u "$assertionsDisabled"), (269, u "MIN_ARRAY_SORT_GRAN"), (0, u "I"), (2, u "INSERTIONSORT_THRESHOLD"), (255, .class_ 976), (0, u "java/util/Arrays$ArrayItr")] 52

def k25m0 : Method := { name := "<init>", desc := "()V", sig := { parameters := [], returnType := none }, accessFlags := 2, code := none }
def k25c1 : Code := { maxStack := 4, maxLocals := 2, code := jdk_65_method_131_code, exceptionTable := #[], attributes := #[] }
def k25m1 : Method := { name := "checkLength", desc := "(II)V", sig := { parameters := [.int, .int], returnType := none }, accessFlags := 10, code := some k25c1 }
def k25c2 : Code := { maxStack := 3, maxLocals := 3, code := jdk_65_method_132_code, exceptionTable := #[], attributes := #[] }
def k25m2 : Method := { name := "copyOfRange", desc := "([BII)[B", sig := { parameters := [(.array .byte), .int, .int], returnType := some (.array .byte) }, accessFlags := 9, code := some k25c2 }
def k25c3 : Code := { maxStack := 6, maxLocals := 5, code := jdk_65_method_133_code, exceptionTable := #[], attributes := #[] }
def k25m3 : Method := { name := "copyOfRangeByte", desc := "([BII)[B", sig := { parameters := [(.array .byte), .int, .int], returnType := some (.array .byte) }, accessFlags := 10, code := some k25c3 }
/-- java/util/Arrays -/
def k25 : Class := { plain "java/util/Arrays" (some 0) with
  accessFlags := 49
  interfaces := #[]
  cf := some (fileOf pool25 14 #[.nestMembers #[975, 375, 113, 74]] #[{ accessFlags := 2, nameIndex := 5, descriptorIndex := 6, attributes := #[] }, { accessFlags := 10, nameIndex := 345, descriptorIndex := 346, attributes := #[] }, { accessFlags := 9, nameIndex := 139, descriptorIndex := 342, attributes := #[] }, { accessFlags := 10, nameIndex := 341, descriptorIndex := 342, attributes := #[] }] 49 2 #[] #[{ accessFlags := 26, nameIndex := 715, descriptorIndex := 716, attributes := #[] }, { accessFlags := 26, nameIndex := 719, descriptorIndex := 716, attributes := #[] }, { accessFlags := 4120, nameIndex := 445, descriptorIndex := 117, attributes := #[] }])
  fields := #[{ name := "MIN_ARRAY_SORT_GRAN", type := .int, accessFlags := 26, slot := 0, constantValue := 0 }, { name := "INSERTIONSORT_THRESHOLD", type := .int, accessFlags := 26, slot := 1, constantValue := 0 }, { name := "$assertionsDisabled", type := .boolean, accessFlags := 4120, slot := 2, constantValue := 0 }]
  methods := #[k25m0, k25m1, k25m2, k25m3]
  instanceTypes := #[]
  staticTypes := #[.int, .int, .boolean]
  resolved := Array.replicate 1029 none
  statics := none }

def pool26 : Array CpInfo := pool [(1, .class_ 2), (0, u "java/lang/Cloneable"), (0, .class_ 4), (0, u "java/lang/Object")] 2

/-- java/lang/Cloneable -/
def k26 : Class := { plain "java/lang/Cloneable" (some 0) with
  accessFlags := 1537
  interfaces := #[]
  cf := some (fileOf pool26 1 #[] #[] 1537 3 #[] #[])
  fields := #[]
  methods := #[]
  instanceTypes := #[]
  staticTypes := #[]
  resolved := Array.replicate 7 none
  statics := none }

def pool27 : Array CpInfo := pool [(4, .class_ 6), (1, u "java/lang/Object"), (0, u "<init>"), (0, u "()V"), (5, .class_ 16), (1, u "java/lang/StringLatin1"), (104, u "$assertionsDisabled"), (0, u "Z"), (98, .class_ 223), (1, u "java/lang/StringLatin1$LinesSpliterator"), (57, u "equals"), (0, u "([B[B)Z"), (107, .class_ 391), (0, u "java/lang/StringLatin1$CharsSpliterator")] 3

def k27m0 : Method := { name := "<init>", desc := "()V", sig := { parameters := [], returnType := none }, accessFlags := 0, code := none }
def k27c1 : Code := { maxStack := 3, maxLocals := 3, code := jdk_43_method_13_code, exceptionTable := #[], attributes := #[] }
def k27m1 : Method := { name := "equals", desc := "([B[B)Z", sig := { parameters := [(.array .byte), (.array .byte)], returnType := some .boolean }, accessFlags := 9, code := some k27c1 }
/-- java/lang/StringLatin1 -/
def k27 : Class := { plain "java/lang/StringLatin1" (some 0) with
  accessFlags := 48
  interfaces := #[]
  cf := some (fileOf pool27 14 #[.nestMembers #[390, 221]] #[{ accessFlags := 0, nameIndex := 7, descriptorIndex := 8, attributes := #[] }, { accessFlags := 9, nameIndex := 281, descriptorIndex := 282, attributes := #[] }] 48 4 #[] #[{ accessFlags := 4120, nameIndex := 121, descriptorIndex := 122, attributes := #[] }])
  fields := #[{ name := "$assertionsDisabled", type := .boolean, accessFlags := 4120, slot := 0, constantValue := 0 }]
  methods := #[k27m0, k27m1]
  instanceTypes := #[]
  staticTypes := #[.boolean]
  resolved := Array.replicate 395 none
  statics := none }

def pool28 : Array CpInfo := pool [(2, .class_ 4), (1, u "java/lang/Object"), (0, u "<init>"), (0, u "()V"), (17, .class_ 26), (1, u "jdk/internal/util/Preconditions"), (28, .class_ 56), (0, u "jdk/internal/util/Preconditions$4"), (57, .class_ 115), (0, u "jdk/internal/util/Preconditions$1"), (7, u "SIOOBE_FORMATTER"), (0, u "Ljava/util/function/BiFunction;"), (0, .class_ 126), (0, u "jdk/internal/util/Preconditions$2"), (3, u "AIOOBE_FORMATTER"), (0, .class_ 132), (0, u "jdk/internal/util/Preconditions$3"), (3, u "IOOBE_FORMATTER")] 57

def k28m0 : Method := { name := "<init>", desc := "()V", sig := { parameters := [], returnType := none }, accessFlags := 1, code := none }
/-- jdk/internal/util/Preconditions -/
def k28 : Class := { plain "jdk/internal/util/Preconditions" (some 0) with
  accessFlags := 33
  interfaces := #[]
  cf := some (fileOf pool28 24 #[.nestMembers #[55, 131, 125, 114]] #[{ accessFlags := 1, nameIndex := 5, descriptorIndex := 6, attributes := #[] }] 33 2 #[] #[{ accessFlags := 25, nameIndex := 123, descriptorIndex := 124, attributes := #[] }, { accessFlags := 25, nameIndex := 130, descriptorIndex := 124, attributes := #[] }, { accessFlags := 25, nameIndex := 136, descriptorIndex := 124, attributes := #[] }])
  fields := #[{ name := "SIOOBE_FORMATTER", type := (.object "java/util/function/BiFunction"), accessFlags := 25, slot := 0, constantValue := 0 }, { name := "AIOOBE_FORMATTER", type := (.object "java/util/function/BiFunction"), accessFlags := 25, slot := 1, constantValue := 0 }, { name := "IOOBE_FORMATTER", type := (.object "java/util/function/BiFunction"), accessFlags := 25, slot := 2, constantValue := 0 }]
  methods := #[k28m0]
  instanceTypes := #[]
  staticTypes := #[(.object "java/util/function/BiFunction"), (.object "java/util/function/BiFunction"), (.object "java/util/function/BiFunction")]
  resolved := Array.replicate 194 none
  statics := some 3 }

def pool29 : Array CpInfo := pool [(9, u "<init>"), (6, .class_ 18), (1, u "java/lang/Object"), (0, u "()V"), (1, .class_ 23), (1, u "jdk/internal/util/ArraysSupport"), (0, u "LOG2_ARRAY_LONG_INDEX_SCALE"), (0, u "I"), (2, u "U"), (0, u "Ljdk/internal/misc/Unsafe;"), (8, u "BIG_ENDIAN"), (0, u "Z"), (8, u "LOG2_BYTE_BIT_SIZE"), (4, u "LOG2_ARRAY_INT_INDEX_SCALE"), (54, u "JLA"), (0, u "Ljdk/internal/access/JavaLangAccess;"), (11, u "LOG2_ARRAY_BOOLEAN_INDEX_SCALE"), (9, u "LOG2_ARRAY_BYTE_INDEX_SCALE"), (5, u "LOG2_ARRAY_CHAR_INDEX_SCALE"), (5, u "LOG2_ARRAY_SHORT_INDEX_SCALE"), (18, u "LOG2_ARRAY_FLOAT_INDEX_SCALE"), (24, u "LOG2_ARRAY_DOUBLE_INDEX_SCALE"), (89, u "T_BOOLEAN"), (2, u "T_CHAR"), (1, u "T_FLOAT"), (1, u "T_DOUBLE"), (1, u "T_BYTE"), (1, u "T_SHORT"), (1, u "T_INT"), (1, u "T_LONG"), (1, u "SOFT_MAX_ARRAY_LENGTH")] 83

def k29m0 : Method := { name := "<init>", desc := "()V", sig := { parameters := [], returnType := none }, accessFlags := 2, code := none }
/-- jdk/internal/util/ArraysSupport -/
def k29 : Class := { plain "jdk/internal/util/ArraysSupport" (some 0) with
  accessFlags := 33
  interfaces := #[]
  cf := some (fileOf pool29 21 #[] #[{ accessFlags := 2, nameIndex := 9, descriptorIndex := 19, attributes := #[] }] 33 16 #[] #[{ accessFlags := 24, nameIndex := 28, descriptorIndex := 29, attributes := #[] }, { accessFlags := 26, nameIndex := 38, descriptorIndex := 39, attributes := #[] }, { accessFlags := 25, nameIndex := 121, descriptorIndex := 25, attributes := #[] }, { accessFlags := 25, nameIndex := 131, descriptorIndex := 25, attributes := #[] }, { accessFlags := 25, nameIndex := 137, descriptorIndex := 25, attributes := #[] }, { accessFlags := 25, nameIndex := 143, descriptorIndex := 25, attributes := #[] }, { accessFlags := 25, nameIndex := 53, descriptorIndex := 25, attributes := #[] }, { accessFlags := 25, nameIndex := 24, descriptorIndex := 25, attributes := #[] }, { accessFlags := 25, nameIndex := 162, descriptorIndex := 25, attributes := #[] }, { accessFlags := 25, nameIndex := 187, descriptorIndex := 25, attributes := #[] }, { accessFlags := 26, nameIndex := 48, descriptorIndex := 25, attributes := #[] }, { accessFlags := 25, nameIndex := 277, descriptorIndex := 25, attributes := #[] }, { accessFlags := 25, nameIndex := 280, descriptorIndex := 25, attributes := #[] }, { accessFlags := 25, nameIndex := 282, descriptorIndex := 25, attributes := #[] }, { accessFlags := 25, nameIndex := 284, descriptorIndex := 25, attributes := #[] }, { accessFlags := 25, nameIndex := 286, descriptorIndex := 25, attributes := #[] }, { accessFlags := 25, nameIndex := 288, descriptorIndex := 25, attributes := #[] }, { accessFlags := 25, nameIndex := 290, descriptorIndex := 25, attributes := #[] }, { accessFlags := 25, nameIndex := 292, descriptorIndex := 25, attributes := #[] }, { accessFlags := 26, nameIndex := 108, descriptorIndex := 109, attributes := #[] }, { accessFlags := 25, nameIndex := 294, descriptorIndex := 25, attributes := #[] }])
  fields := #[{ name := "U", type := (.object "jdk/internal/misc/Unsafe"), accessFlags := 24, slot := 0, constantValue := 0 }, { name := "BIG_ENDIAN", type := .boolean, accessFlags := 26, slot := 1, constantValue := 0 }, { name := "LOG2_ARRAY_BOOLEAN_INDEX_SCALE", type := .int, accessFlags := 25, slot := 2, constantValue := 0 }, { name := "LOG2_ARRAY_BYTE_INDEX_SCALE", type := .int, accessFlags := 25, slot := 3, constantValue := 0 }, { name := "LOG2_ARRAY_CHAR_INDEX_SCALE", type := .int, accessFlags := 25, slot := 4, constantValue := 0 }, { name := "LOG2_ARRAY_SHORT_INDEX_SCALE", type := .int, accessFlags := 25, slot := 5, constantValue := 0 }, { name := "LOG2_ARRAY_INT_INDEX_SCALE", type := .int, accessFlags := 25, slot := 6, constantValue := 0 }, { name := "LOG2_ARRAY_LONG_INDEX_SCALE", type := .int, accessFlags := 25, slot := 7, constantValue := 0 }, { name := "LOG2_ARRAY_FLOAT_INDEX_SCALE", type := .int, accessFlags := 25, slot := 8, constantValue := 0 }, { name := "LOG2_ARRAY_DOUBLE_INDEX_SCALE", type := .int, accessFlags := 25, slot := 9, constantValue := 0 }, { name := "LOG2_BYTE_BIT_SIZE", type := .int, accessFlags := 26, slot := 10, constantValue := 0 }, { name := "T_BOOLEAN", type := .int, accessFlags := 25, slot := 11, constantValue := 0 }, { name := "T_CHAR", type := .int, accessFlags := 25, slot := 12, constantValue := 0 }, { name := "T_FLOAT", type := .int, accessFlags := 25, slot := 13, constantValue := 0 }, { name := "T_DOUBLE", type := .int, accessFlags := 25, slot := 14, constantValue := 0 }, { name := "T_BYTE", type := .int, accessFlags := 25, slot := 15, constantValue := 0 }, { name := "T_SHORT", type := .int, accessFlags := 25, slot := 16, constantValue := 0 }, { name := "T_INT", type := .int, accessFlags := 25, slot := 17, constantValue := 0 }, { name := "T_LONG", type := .int, accessFlags := 25, slot := 18, constantValue := 0 }, { name := "JLA", type := (.object "jdk/internal/access/JavaLangAccess"), accessFlags := 26, slot := 19, constantValue := 0 }, { name := "SOFT_MAX_ARRAY_LENGTH", type := .int, accessFlags := 25, slot := 20, constantValue := 0 }]
  methods := #[k29m0]
  instanceTypes := #[]
  staticTypes := #[(.object "jdk/internal/misc/Unsafe"), .boolean, .int, .int, .int, .int, .int, .int, .int, .int, .int, .int, .int, .int, .int, .int, .int, .int, .int, (.object "jdk/internal/access/JavaLangAccess"), .int]
  resolved := Array.replicate 378 none
  statics := none }

def pool30 : Array CpInfo := pool [(4, .class_ 6), (1, u "java/time/temporal/TemporalUnit"), (23, .class_ 31), (0, u "java/lang/Object")] 27

/-- java/time/temporal/TemporalUnit -/
def k30 : Class := { plain "java/time/temporal/TemporalUnit" (some 0) with
  accessFlags := 1537
  interfaces := #[]
  cf := some (fileOf pool30 4 #[] #[] 1537 30 #[] #[])
  fields := #[]
  methods := #[]
  instanceTypes := #[]
  staticTypes := #[]
  resolved := Array.replicate 59 none
  statics := none }

def pool31 : Array CpInfo := pool [(1, .class_ 2), (0, u "java/time/temporal/ChronoUnit"), (2, u "NANOS"), (0, u "Ljava/time/temporal/ChronoUnit;"), (2, u "MICROS"), (2, u "MILLIS"), (2, u "SECONDS"), (2, u "MINUTES"), (2, u "HOURS"), (2, u "HALF_DAYS"), (2, u "DAYS"), (2, u "WEEKS"), (2, u "MONTHS"), (2, u "YEARS"), (2, u "DECADES"), (2, u "CENTURIES"), (2, u "MILLENNIA"), (2, u "ERAS"), (2, u "FOREVER"), (2, u "$VALUES"), (0, u "[Ljava/time/temporal/ChronoUnit;"), (6, .class_ 64), (1, u "java/lang/Enum"), (8, u "name"), (0, u "Ljava/lang/String;"), (2, u "duration"), (0, u "Ljava/time/Duration;"), (117, .class_ 197), (0, u "java/time/temporal/TemporalUnit")] 39

/-- java/time/temporal/ChronoUnit -/
def k31 : Class := { plain "java/time/temporal/ChronoUnit" (some 18) with
  accessFlags := 16433
  interfaces := #[30]
  cf := some (fileOf pool31 1 #[] #[] 16433 62 #[196] #[{ accessFlags := 16409, nameIndex := 5, descriptorIndex := 6, attributes := #[] }, { accessFlags := 16409, nameIndex := 9, descriptorIndex := 6, attributes := #[] }, { accessFlags := 16409, nameIndex := 12, descriptorIndex := 6, attributes := #[] }, { accessFlags := 16409, nameIndex := 15, descriptorIndex := 6, attributes := #[] }, { accessFlags := 16409, nameIndex := 18, descriptorIndex := 6, attributes := #[] }, { accessFlags := 16409, nameIndex := 21, descriptorIndex := 6, attributes := #[] }, { accessFlags := 16409, nameIndex := 24, descriptorIndex := 6, attributes := #[] }, { accessFlags := 16409, nameIndex := 27, descriptorIndex := 6, attributes := #[] }, { accessFlags := 16409, nameIndex := 30, descriptorIndex := 6, attributes := #[] }, { accessFlags := 16409, nameIndex := 33, descriptorIndex := 6, attributes := #[] }, { accessFlags := 16409, nameIndex := 36, descriptorIndex := 6, attributes := #[] }, { accessFlags := 16409, nameIndex := 39, descriptorIndex := 6, attributes := #[] }, { accessFlags := 16409, nameIndex := 42, descriptorIndex := 6, attributes := #[] }, { accessFlags := 16409, nameIndex := 45, descriptorIndex := 6, attributes := #[] }, { accessFlags := 16409, nameIndex := 48, descriptorIndex := 6, attributes := #[] }, { accessFlags := 16409, nameIndex := 51, descriptorIndex := 6, attributes := #[] }, { accessFlags := 18, nameIndex := 73, descriptorIndex := 74, attributes := #[] }, { accessFlags := 18, nameIndex := 77, descriptorIndex := 78, attributes := #[] }, { accessFlags := 4122, nameIndex := 54, descriptorIndex := 55, attributes := #[] }])
  fields := #[{ name := "NANOS", type := (.object "java/time/temporal/ChronoUnit"), accessFlags := 16409, slot := 0, constantValue := 0 }, { name := "MICROS", type := (.object "java/time/temporal/ChronoUnit"), accessFlags := 16409, slot := 1, constantValue := 0 }, { name := "MILLIS", type := (.object "java/time/temporal/ChronoUnit"), accessFlags := 16409, slot := 2, constantValue := 0 }, { name := "SECONDS", type := (.object "java/time/temporal/ChronoUnit"), accessFlags := 16409, slot := 3, constantValue := 0 }, { name := "MINUTES", type := (.object "java/time/temporal/ChronoUnit"), accessFlags := 16409, slot := 4, constantValue := 0 }, { name := "HOURS", type := (.object "java/time/temporal/ChronoUnit"), accessFlags := 16409, slot := 5, constantValue := 0 }, { name := "HALF_DAYS", type := (.object "java/time/temporal/ChronoUnit"), accessFlags := 16409, slot := 6, constantValue := 0 }, { name := "DAYS", type := (.object "java/time/temporal/ChronoUnit"), accessFlags := 16409, slot := 7, constantValue := 0 }, { name := "WEEKS", type := (.object "java/time/temporal/ChronoUnit"), accessFlags := 16409, slot := 8, constantValue := 0 }, { name := "MONTHS", type := (.object "java/time/temporal/ChronoUnit"), accessFlags := 16409, slot := 9, constantValue := 0 }, { name := "YEARS", type := (.object "java/time/temporal/ChronoUnit"), accessFlags := 16409, slot := 10, constantValue := 0 }, { name := "DECADES", type := (.object "java/time/temporal/ChronoUnit"), accessFlags := 16409, slot := 11, constantValue := 0 }, { name := "CENTURIES", type := (.object "java/time/temporal/ChronoUnit"), accessFlags := 16409, slot := 12, constantValue := 0 }, { name := "MILLENNIA", type := (.object "java/time/temporal/ChronoUnit"), accessFlags := 16409, slot := 13, constantValue := 0 }, { name := "ERAS", type := (.object "java/time/temporal/ChronoUnit"), accessFlags := 16409, slot := 14, constantValue := 0 }, { name := "FOREVER", type := (.object "java/time/temporal/ChronoUnit"), accessFlags := 16409, slot := 15, constantValue := 0 }, { name := "name", type := (.object "java/lang/String"), accessFlags := 18, slot := 3, constantValue := 0 }, { name := "duration", type := (.object "java/time/Duration"), accessFlags := 18, slot := 4, constantValue := 0 }, { name := "$VALUES", type := (.array (.object "java/time/temporal/ChronoUnit")), accessFlags := 4122, slot := 16, constantValue := 0 }]
  methods := #[]
  instanceTypes := #[(.object "java/lang/String"), .int, .int, (.object "java/lang/String"), (.object "java/time/Duration")]
  staticTypes := #[(.object "java/time/temporal/ChronoUnit"), (.object "java/time/temporal/ChronoUnit"), (.object "java/time/temporal/ChronoUnit"), (.object "java/time/temporal/ChronoUnit"), (.object "java/time/temporal/ChronoUnit"), (.object "java/time/temporal/ChronoUnit"), (.object "java/time/temporal/ChronoUnit"), (.object "java/time/temporal/ChronoUnit"), (.object "java/time/temporal/ChronoUnit"), (.object "java/time/temporal/ChronoUnit"), (.object "java/time/temporal/ChronoUnit"), (.object "java/time/temporal/ChronoUnit"), (.object "java/time/temporal/ChronoUnit"), (.object "java/time/temporal/ChronoUnit"), (.object "java/time/temporal/ChronoUnit"), (.object "java/time/temporal/ChronoUnit"), (.array (.object "java/time/temporal/ChronoUnit"))]
  resolved := Array.replicate 237 none
  statics := some 4 }

def pool32 : Array CpInfo := pool [(1, .class_ 2), (0, u "java/time/temporal/TemporalAmount"), (0, .class_ 4), (0, u "java/lang/Object")] 11

/-- java/time/temporal/TemporalAmount -/
def k32 : Class := { plain "java/time/temporal/TemporalAmount" (some 0) with
  accessFlags := 1537
  interfaces := #[]
  cf := some (fileOf pool32 1 #[] #[] 1537 3 #[] #[])
  fields := #[]
  methods := #[]
  instanceTypes := #[]
  staticTypes := #[]
  resolved := Array.replicate 16 none
  statics := none }

def pool33 : Array CpInfo := pool [(11, .class_ 13), (1, u "java/time/Duration"), (20, u "ZERO"), (0, u "Ljava/time/Duration;"), (13, .class_ 51), (1, u "java/time/temporal/TemporalAmount"), (27, .class_ 81), (1, u "java/time/Duration$Lazy"), (35, u "seconds"), (101, .class_ 220), (0, u "java/lang/Object"), (2, u "J"), (2, u "nanos"), (0, u "I"), (11, .class_ 241), (1, u "java/time/Duration$DurationUnits"), (27, .class_ 271), (1, u "java/time/Duration$1"), (91, u "BI_NANOS_PER_SECOND"), (0, u "Ljava/math/BigInteger;"), (120, .class_ 486), (0, u "java/lang/Comparable"), (0, .class_ 488), (0, u "java/io/Serializable"), (0, u "serialVersionUID")] 166

/-- java/time/Duration -/
def k33 : Class := { plain "java/time/Duration" (some 0) with
  accessFlags := 49
  interfaces := #[32, 4, 3]
  cf := some (fileOf pool33 11 #[.nestMembers #[269, 239, 79]] #[] 49 219 #[49, 485, 487] #[{ accessFlags := 25, nameIndex := 34, descriptorIndex := 35, attributes := #[] }, { accessFlags := 26, nameIndex := 489, descriptorIndex := 223, attributes := #[] }, { accessFlags := 26, nameIndex := 363, descriptorIndex := 364, attributes := #[] }, { accessFlags := 18, nameIndex := 117, descriptorIndex := 223, attributes := #[] }, { accessFlags := 18, nameIndex := 226, descriptorIndex := 227, attributes := #[] }])
  fields := #[{ name := "ZERO", type := (.object "java/time/Duration"), accessFlags := 25, slot := 0, constantValue := 0 }, { name := "serialVersionUID", type := .long, accessFlags := 26, slot := 1, constantValue := 0 }, { name := "BI_NANOS_PER_SECOND", type := (.object "java/math/BigInteger"), accessFlags := 26, slot := 2, constantValue := 0 }, { name := "seconds", type := .long, accessFlags := 18, slot := 0, constantValue := 0 }, { name := "nanos", type := .int, accessFlags := 18, slot := 1, constantValue := 0 }]
  methods := #[]
  instanceTypes := #[.long, .int]
  staticTypes := #[(.object "java/time/Duration"), .long, (.object "java/math/BigInteger")]
  resolved := Array.replicate 656 none
  statics := none }

/-- the primitive byte -/
def k34 : Class := { plain "byte" none with kind := .primitive 'B', accessFlags := 0x411 }
/-- [B -/
def k35 : Class := { plain "[B" (some 0) with kind := .array 34 .byte, interfaces := #[26, 3], accessFlags := 1041 }

def heap : Heap := #[{ cls := 8, slots := #[.long 0, .int 1, .null, .int 0, .null, .int 0, .int 0], vm := .statics 8 },
  { cls := 20, slots := #[.null, .null, .null, .null, .null, .null, .null, .null, .null, .null, .null, .null, .null, .null, .null, .null, .null, .null, .null, .null, .ref 5, .null, .null, .null, .null, .null, .null, .null, .null, .null, .null], vm := .statics 20 },
  { cls := 24, slots := #[.int 0, .int 0, .null, .null, .ref 18, .ref 17, .int 0, .int 0, .long 0], vm := .statics 24 },
  { cls := 28, slots := #[.null, .null, .null], vm := .statics 28 },
  { cls := 31, slots := #[.null, .null, .null, .null, .null, .null, .null, .ref 8, .null, .null, .null, .null, .null, .null, .null, .ref 12, .null], vm := .statics 31 },
  { cls := 20, slots := #[.ref 6, .int 20, .int 0, .ref 6, .ref 8, .ref 12, .ref 16, .null], vm := .none },
  { cls := 8, slots := #[.null, .int 0, .int 0, .int 0], vm := .none },
  { cls := 8, slots := #[.null, .int 0, .int 0, .int 0], vm := .none },
  { cls := 31, slots := #[.ref 9, .int 7, .int 0, .ref 9, .ref 11], vm := .none },
  { cls := 8, slots := #[.null, .int 0, .int 0, .int 0], vm := .none },
  { cls := 8, slots := #[.null, .int 0, .int 0, .int 0], vm := .none },
  { cls := 33, slots := #[.long 0, .int 0], vm := .none },
  { cls := 31, slots := #[.ref 13, .int 15, .int 0, .ref 13, .ref 15], vm := .none },
  { cls := 8, slots := #[.null, .int 0, .int 0, .int 0], vm := .none },
  { cls := 8, slots := #[.null, .int 0, .int 0, .int 0], vm := .none },
  { cls := 33, slots := #[.long 0, .int 0], vm := .none },
  { cls := 21, slots := #[.long (-365243219162), .long (-365243219162), .long 365241780471, .long 365241780471], vm := .none },
  { cls := 35, slots := #[.int 48, .int 49, .int 50, .int 51, .int 52, .int 53, .int 54, .int 55, .int 56, .int 57, .int 48, .int 49, .int 50, .int 51, .int 52, .int 53, .int 54, .int 55, .int 56, .int 57, .int 48, .int 49, .int 50, .int 51, .int 52, .int 53, .int 54, .int 55, .int 56, .int 57, .int 48, .int 49, .int 50, .int 51, .int 52, .int 53, .int 54, .int 55, .int 56, .int 57, .int 48, .int 49, .int 50, .int 51, .int 52, .int 53, .int 54, .int 55, .int 56, .int 57, .int 48, .int 49, .int 50, .int 51, .int 52, .int 53, .int 54, .int 55, .int 56, .int 57, .int 48, .int 49, .int 50, .int 51, .int 52, .int 53, .int 54, .int 55, .int 56, .int 57, .int 48, .int 49, .int 50, .int 51, .int 52, .int 53, .int 54, .int 55, .int 56, .int 57, .int 48, .int 49, .int 50, .int 51, .int 52, .int 53, .int 54, .int 55, .int 56, .int 57, .int 48, .int 49, .int 50, .int 51, .int 52, .int 53, .int 54, .int 55, .int 56, .int 57], vm := .none },
  { cls := 35, slots := #[.int 48, .int 48, .int 48, .int 48, .int 48, .int 48, .int 48, .int 48, .int 48, .int 48, .int 49, .int 49, .int 49, .int 49, .int 49, .int 49, .int 49, .int 49, .int 49, .int 49, .int 50, .int 50, .int 50, .int 50, .int 50, .int 50, .int 50, .int 50, .int 50, .int 50, .int 51, .int 51, .int 51, .int 51, .int 51, .int 51, .int 51, .int 51, .int 51, .int 51, .int 52, .int 52, .int 52, .int 52, .int 52, .int 52, .int 52, .int 52, .int 52, .int 52, .int 53, .int 53, .int 53, .int 53, .int 53, .int 53, .int 53, .int 53, .int 53, .int 53, .int 54, .int 54, .int 54, .int 54, .int 54, .int 54, .int 54, .int 54, .int 54, .int 54, .int 55, .int 55, .int 55, .int 55, .int 55, .int 55, .int 55, .int 55, .int 55, .int 55, .int 56, .int 56, .int 56, .int 56, .int 56, .int 56, .int 56, .int 56, .int 56, .int 56, .int 57, .int 57, .int 57, .int 57, .int 57, .int 57, .int 57, .int 57, .int 57, .int 57], vm := .none }]
def classes : Array Class := #[k0, k1, k2, k3, k4, k5, k6, k7, k8, k9, k10, k11, k12, k13, k14, k15, k16, k17, k18, k19, k20, k21, k22, k23, k24, k25, k26, k27, k28, k29, k30, k31, k32, k33, k34, k35]
def interned : List (Array UInt16 × Addr) := []
def slotsUsed : Nat := 317
def theMethod : MethodId := ⟨1, 1⟩
def args0 : Array Value := #[.long 5]
def aboutOver (below : List Frame) : State where
  vm := { classes := classes, interned := interned.toArray }
  heap := heap
  slotsUsed := slotsUsed
  threads := #[{ frames := .invoking theMethod args0 :: below }]
def below0 : List Frame := [.native { method := ⟨0, 0⟩, args := #[] }]
def about1 : State := aboutOver below0
def p0 : Program := .bare "" "" ""
def e0 : Env := launch0.env 0 0 0
theorem w_frames : about1.frames = Frame.invoking theMethod args0 :: below0 := rfl
set_option maxRecDepth 65536 in
theorem w_args : argsFit about1.vm theMethod args0 = true := by decide +kernel
set_option maxRecDepth 65536 in
theorem w_heap : heapFits about1 = true := by decide +kernel
set_option maxRecDepth 65536 in
theorem w_runnable : about1.curStatus? = some .runnable := by decide +kernel
set_option maxRecDepth 65536 in
theorem w_alone : about1.alone = true := by decide +kernel
set_option maxRecDepth 65536 in
theorem w_named : about1.methodNamed? x = some theMethod := by decide +kernel
set_option maxRecDepth 65536 in
theorem w_hears : about1.hears theMethod below0 = true := by decide +kernel
set_option maxRecDepth 65536 in
theorem w_ripe : about1.ripe theMethod args0 below0 = true := by decide +kernel
theorem w_running : about1.status = .running := rfl
set_option maxRecDepth 65536 in
theorem w_room : about1.hasRoom e0.platform room_1 = true :=
  launch0.hasRoom_least _ room_1 (by decide +kernel) (by decide +kernel) (by decide +kernel) (by decide +kernel) (by decide +kernel) (by decide +kernel)
theorem allAtoms_all (ts : List Jvm.Cond) (a : Array Jvm.Value) (st : Jvm.State) : (allAtoms ts).before a st = ts.all (fun c => c.before a st) := by
  induction ts with
  | nil => rfl
  | cons c t ih =>
    show (Jvm.Cond.and c (allAtoms t)).before a st = _
    rw [Jvm.Cond.before_and, ih, List.all_cons]
def words1 : List Jvm.Cond := Jvm.Cond.code x code maxLocals ret :: tables_1
/-- a 'code' word, met by the world's own term for the bytes: nothing is compared byte by byte -/
theorem code_word {y : MethodName} {bytes : ByteArray} {mx : Nat} {rt : Option FieldType} {a : Array Value} {s : State} {m : MethodId} {meth : Method} {c : Code} (h1 : s.methodNamed? y = some m) (h2 : s.vm.method? m = some meth) (h3 : meth.code = some c) (h4 : c.code = bytes)
    (h5 : (c.maxLocals == mx && c.exceptionTable.isEmpty && decide (c.maxStack ≤ mostOperands) && decide (meth.sig.returnType = rt) && !meth.locks && decide (parseMethodDescriptor y.desc = some meth.sig)) = true) : (Jvm.Cond.code y bytes mx rt).before a s = true := by
  simp only [Bool.and_eq_true, beq_iff_eq, Bool.not_eq_true', decide_eq_true_eq] at h5
  obtain ⟨⟨⟨⟨⟨g1, g2⟩, g3⟩, g4⟩, g5⟩, g6⟩ := h5
  simp [Cond.before, Cond.holds, Cond.value, h1, h2, h3, h4, g1, g2, g3, g4, g5, g6]
def isCode : Jvm.Cond → Bool
  | .code _ _ _ _ => true
  | _ => false
theorem all_split {L : List Jvm.Cond} {P : Jvm.Cond → Bool} (h1 : L.all (fun c => isCode c || P c) = true) (h2 : ∀ c ∈ L.filter isCode, P c = true) : L.all P = true := by
  refine List.all_eq_true.mpr fun c hc => ?_
  have h := List.all_eq_true.mp h1 c hc
  rcases Bool.eq_false_or_eq_true (isCode c) with hi | hi
  · exact h2 c (List.mem_filter.mpr ⟨hc, hi⟩)
  · simpa [hi] using h
set_option maxRecDepth 65536 in
theorem w_c0 : (Jvm.Cond.code x code maxLocals ret).before args0 about1 = true := code_word (m := ⟨1, 1⟩) (meth := k1m1) (c := k1c1) (by decide +kernel) rfl rfl rfl (by decide +kernel)
set_option maxRecDepth 65536 in
theorem w_c1 : (Jvm.Cond.code ({ cls := "com/example/sorted_set_patterns/sortedsetpatterns/Periods", name := "days", desc := "()Lcom/example/sorted_set_patterns/sortedsetpatterns/Periods;" } : Jvm.MethodName) prog_5_method_4_code (0 : Nat) (Option.some (Jvm.ClassFile.FieldType.object "com/example/sorted_set_patterns/sortedsetpatterns/Periods"))).before args0 about1 = true := code_word (m := ⟨2, 1⟩) (meth := k2m1) (c := k2c1) (by decide +kernel) rfl rfl rfl (by decide +kernel)
set_option maxRecDepth 65536 in
theorem w_c2 : (Jvm.Cond.code ({ cls := "com/example/sorted_set_patterns/sortedsetpatterns/Periods", name := "<init>", desc := "(Ljava/lang/String;ZJJ)V" } : Jvm.MethodName) prog_5_method_1_code (7 : Nat) (Option.none : Option Jvm.ClassFile.FieldType)).before args0 about1 = true := code_word (m := ⟨2, 0⟩) (meth := k2m0) (c := k2c0) (by decide +kernel) rfl rfl rfl (by decide +kernel)
set_option maxRecDepth 65536 in
theorem w_c3 : (Jvm.Cond.code ({ cls := "java/lang/Object", name := "<init>", desc := "()V" } : Jvm.MethodName) object_method_1_code (1 : Nat) (Option.none : Option Jvm.ClassFile.FieldType)).before args0 about1 = true := code_word (m := ⟨0, 0⟩) (meth := k0m0) (c := k0c0) (by decide +kernel) rfl rfl rfl (by decide +kernel)
set_option maxRecDepth 65536 in
theorem w_c4 : (Jvm.Cond.code ({ cls := "com/example/sorted_set_patterns/sortedsetpatterns/Periods", name := "number", desc := "(J)J" } : Jvm.MethodName) prog_5_method_5_code (3 : Nat) (Option.some Jvm.ClassFile.FieldType.long)).before args0 about1 = true := code_word (m := ⟨2, 2⟩) (meth := k2m2) (c := k2c2) (by decide +kernel) rfl rfl rfl (by decide +kernel)
set_option maxRecDepth 65536 in
theorem w_c5 : (Jvm.Cond.code ({ cls := "com/example/sorted_set_patterns/sortedsetpatterns/Periods", name := "end", desc := "(J)J" } : Jvm.MethodName) prog_5_method_6_code (3 : Nat) (Option.some Jvm.ClassFile.FieldType.long)).before args0 about1 = true := code_word (m := ⟨2, 3⟩) (meth := k2m3) (c := k2c3) (by decide +kernel) rfl rfl rfl (by decide +kernel)
set_option maxRecDepth 65536 in
theorem w_c6 : (Jvm.Cond.code ({ cls := "com/example/sorted_set_patterns/sortedsetpatterns/Periods", name := "toString", desc := "()Ljava/lang/String;" } : Jvm.MethodName) prog_5_method_10_code (1 : Nat) (Option.some (Jvm.ClassFile.FieldType.object "java/lang/String"))).before args0 about1 = true := code_word (m := ⟨2, 6⟩) (meth := k2m6) (c := k2c6) (by decide +kernel) rfl rfl rfl (by decide +kernel)
set_option maxRecDepth 65536 in
theorem w_c7 : (Jvm.Cond.code ({ cls := "java/lang/String", name := "equals", desc := "(Ljava/lang/Object;)Z" } : Jvm.MethodName) jdk_42_method_66_code (3 : Nat) (Option.some Jvm.ClassFile.FieldType.boolean)).before args0 about1 = true := code_word (m := ⟨8, 3⟩) (meth := k8m3) (c := k8c3) (by decide +kernel) rfl rfl rfl (by decide +kernel)
set_option maxRecDepth 65536 in
theorem w_c8 : (Jvm.Cond.code ({ cls := "com/example/sorted_set_patterns/sortedsetpatterns/Periods", name := "name", desc := "(J)Ljava/lang/String;" } : Jvm.MethodName) prog_5_method_7_code (3 : Nat) (Option.some (Jvm.ClassFile.FieldType.object "java/lang/String"))).before args0 about1 = true := code_word (m := ⟨2, 4⟩) (meth := k2m4) (c := k2c4) (by decide +kernel) rfl rfl rfl (by decide +kernel)
set_option maxRecDepth 65536 in
theorem w_c9 : (Jvm.Cond.code ({ cls := "java/lang/StringBuilder", name := "<init>", desc := "()V" } : Jvm.MethodName) jdk_67_method_1_code (1 : Nat) (Option.none : Option Jvm.ClassFile.FieldType)).before args0 about1 = true := code_word (m := ⟨11, 0⟩) (meth := k11m0) (c := k11c0) (by decide +kernel) rfl rfl rfl (by decide +kernel)
set_option maxRecDepth 65536 in
theorem w_c10 : (Jvm.Cond.code ({ cls := "java/lang/AbstractStringBuilder", name := "<init>", desc := "(I)V" } : Jvm.MethodName) jdk_68_method_2_code (2 : Nat) (Option.none : Option Jvm.ClassFile.FieldType)).before args0 about1 = true := code_word (m := ⟨10, 1⟩) (meth := k10m1) (c := k10c1) (by decide +kernel) rfl rfl rfl (by decide +kernel)
set_option maxRecDepth 65536 in
theorem w_c11 : (Jvm.Cond.code ({ cls := "java/lang/StringBuilder", name := "append", desc := "(Ljava/lang/String;)Ljava/lang/StringBuilder;" } : Jvm.MethodName) jdk_67_method_7_code (2 : Nat) (Option.some (Jvm.ClassFile.FieldType.object "java/lang/StringBuilder"))).before args0 about1 = true := code_word (m := ⟨11, 2⟩) (meth := k11m2) (c := k11c2) (by decide +kernel) rfl rfl rfl (by decide +kernel)
set_option maxRecDepth 65536 in
theorem w_c12 : (Jvm.Cond.code ({ cls := "java/lang/AbstractStringBuilder", name := "append", desc := "(Ljava/lang/String;)Ljava/lang/AbstractStringBuilder;" } : Jvm.MethodName) jdk_68_method_22_code (3 : Nat) (Option.some (Jvm.ClassFile.FieldType.object "java/lang/AbstractStringBuilder"))).before args0 about1 = true := code_word (m := ⟨10, 4⟩) (meth := k10m4) (c := k10c4) (by decide +kernel) rfl rfl rfl (by decide +kernel)
set_option maxRecDepth 65536 in
theorem w_c13 : (Jvm.Cond.code ({ cls := "java/lang/String", name := "length", desc := "()I" } : Jvm.MethodName) jdk_42_method_54_code (1 : Nat) (Option.some Jvm.ClassFile.FieldType.int)).before args0 about1 = true := code_word (m := ⟨8, 2⟩) (meth := k8m2) (c := k8c2) (by decide +kernel) rfl rfl rfl (by decide +kernel)
set_option maxRecDepth 65536 in
theorem w_c14 : (Jvm.Cond.code ({ cls := "java/lang/String", name := "coder", desc := "()B" } : Jvm.MethodName) jdk_42_method_152_code (1 : Nat) (Option.some Jvm.ClassFile.FieldType.byte)).before args0 about1 = true := code_word (m := ⟨8, 6⟩) (meth := k8m6) (c := k8c6) (by decide +kernel) rfl rfl rfl (by decide +kernel)
set_option maxRecDepth 65536 in
theorem w_c15 : (Jvm.Cond.code ({ cls := "java/lang/AbstractStringBuilder", name := "ensureCapacityInternal", desc := "(I)V" } : Jvm.MethodName) jdk_68_method_9_code (3 : Nat) (Option.none : Option Jvm.ClassFile.FieldType)).before args0 about1 = true := code_word (m := ⟨10, 3⟩) (meth := k10m3) (c := k10c3) (by decide +kernel) rfl rfl rfl (by decide +kernel)
set_option maxRecDepth 65536 in
theorem w_c16 : (Jvm.Cond.code ({ cls := "java/lang/AbstractStringBuilder", name := "putStringAt", desc := "(ILjava/lang/String;)V" } : Jvm.MethodName) jdk_68_method_73_code (3 : Nat) (Option.none : Option Jvm.ClassFile.FieldType)).before args0 about1 = true := code_word (m := ⟨10, 9⟩) (meth := k10m9) (c := k10c9) (by decide +kernel) rfl rfl rfl (by decide +kernel)
set_option maxRecDepth 65536 in
theorem w_c17 : (Jvm.Cond.code ({ cls := "java/lang/AbstractStringBuilder", name := "inflateIfNeededFor", desc := "(Ljava/lang/String;)V" } : Jvm.MethodName) jdk_68_method_71_code (2 : Nat) (Option.none : Option Jvm.ClassFile.FieldType)).before args0 about1 = true := code_word (m := ⟨10, 8⟩) (meth := k10m8) (c := k10c8) (by decide +kernel) rfl rfl rfl (by decide +kernel)
set_option maxRecDepth 65536 in
theorem w_c18 : (Jvm.Cond.code ({ cls := "java/lang/String", name := "getBytes", desc := "([BIB)V" } : Jvm.MethodName) jdk_42_method_147_code (4 : Nat) (Option.none : Option Jvm.ClassFile.FieldType)).before args0 about1 = true := code_word (m := ⟨8, 4⟩) (meth := k8m4) (c := k8c4) (by decide +kernel) rfl rfl rfl (by decide +kernel)
set_option maxRecDepth 65536 in
theorem w_c19 : (Jvm.Cond.code ({ cls := "com/example/sorted_set_patterns/sortedsetpatterns/Periods", name := "label", desc := "(J)Ljava/lang/String;" } : Jvm.MethodName) prog_5_method_9_code (3 : Nat) (Option.some (Jvm.ClassFile.FieldType.object "java/lang/String"))).before args0 about1 = true := code_word (m := ⟨2, 5⟩) (meth := k2m5) (c := k2c5) (by decide +kernel) rfl rfl rfl (by decide +kernel)
set_option maxRecDepth 65536 in
theorem w_c20 : (Jvm.Cond.code ({ cls := "java/time/LocalDate", name := "ofEpochDay", desc := "(J)Ljava/time/LocalDate;" } : Jvm.MethodName) jdk_2323_method_8_code (14 : Nat) (Option.some (Jvm.ClassFile.FieldType.object "java/time/LocalDate"))).before args0 about1 = true := code_word (m := ⟨17, 0⟩) (meth := k17m0) (c := k17c0) (by decide +kernel) rfl rfl rfl (by decide +kernel)
set_option maxRecDepth 65536 in
theorem w_c21 : (Jvm.Cond.code ({ cls := "java/time/temporal/ChronoField", name := "checkValidValue", desc := "(J)J" } : Jvm.MethodName) jdk_2395_method_11_code (3 : Nat) (Option.some Jvm.ClassFile.FieldType.long)).before args0 about1 = true := code_word (m := ⟨20, 1⟩) (meth := k20m1) (c := k20c1) (by decide +kernel) rfl rfl rfl (by decide +kernel)
set_option maxRecDepth 65536 in
theorem w_c22 : (Jvm.Cond.code ({ cls := "java/time/temporal/ChronoField", name := "range", desc := "()Ljava/time/temporal/ValueRange;" } : Jvm.MethodName) jdk_2395_method_8_code (1 : Nat) (Option.some (Jvm.ClassFile.FieldType.object "java/time/temporal/ValueRange"))).before args0 about1 = true := code_word (m := ⟨20, 0⟩) (meth := k20m0) (c := k20c0) (by decide +kernel) rfl rfl rfl (by decide +kernel)
set_option maxRecDepth 65536 in
theorem w_c23 : (Jvm.Cond.code ({ cls := "java/time/temporal/ValueRange", name := "checkValidValue", desc := "(JLjava/time/temporal/TemporalField;)J" } : Jvm.MethodName) jdk_2423_method_13_code (4 : Nat) (Option.some Jvm.ClassFile.FieldType.long)).before args0 about1 = true := code_word (m := ⟨21, 3⟩) (meth := k21m3) (c := k21c3) (by decide +kernel) rfl rfl rfl (by decide +kernel)
set_option maxRecDepth 65536 in
theorem w_c24 : (Jvm.Cond.code ({ cls := "java/time/temporal/ValueRange", name := "isValidValue", desc := "(J)Z" } : Jvm.MethodName) jdk_2423_method_11_code (3 : Nat) (Option.some Jvm.ClassFile.FieldType.boolean)).before args0 about1 = true := code_word (m := ⟨21, 2⟩) (meth := k21m2) (c := k21c2) (by decide +kernel) rfl rfl rfl (by decide +kernel)
set_option maxRecDepth 65536 in
theorem w_c25 : (Jvm.Cond.code ({ cls := "java/time/temporal/ValueRange", name := "getMinimum", desc := "()J" } : Jvm.MethodName) jdk_2423_method_6_code (1 : Nat) (Option.some Jvm.ClassFile.FieldType.long)).before args0 about1 = true := code_word (m := ⟨21, 0⟩) (meth := k21m0) (c := k21c0) (by decide +kernel) rfl rfl rfl (by decide +kernel)
set_option maxRecDepth 65536 in
theorem w_c26 : (Jvm.Cond.code ({ cls := "java/time/temporal/ValueRange", name := "getMaximum", desc := "()J" } : Jvm.MethodName) jdk_2423_method_9_code (1 : Nat) (Option.some Jvm.ClassFile.FieldType.long)).before args0 about1 = true := code_word (m := ⟨21, 1⟩) (meth := k21m1) (c := k21c1) (by decide +kernel) rfl rfl rfl (by decide +kernel)
set_option maxRecDepth 65536 in
theorem w_c27 : (Jvm.Cond.code ({ cls := "java/time/LocalDate", name := "<init>", desc := "(III)V" } : Jvm.MethodName) jdk_2323_method_14_code (4 : Nat) (Option.none : Option Jvm.ClassFile.FieldType)).before args0 about1 = true := code_word (m := ⟨17, 1⟩) (meth := k17m1) (c := k17c1) (by decide +kernel) rfl rfl rfl (by decide +kernel)
set_option maxRecDepth 65536 in
theorem w_c28 : (Jvm.Cond.code ({ cls := "java/time/LocalDate", name := "toString", desc := "()Ljava/lang/String;" } : Jvm.MethodName) jdk_2323_method_76_code (6 : Nat) (Option.some (Jvm.ClassFile.FieldType.object "java/lang/String"))).before args0 about1 = true := code_word (m := ⟨17, 2⟩) (meth := k17m2) (c := k17c2) (by decide +kernel) rfl rfl rfl (by decide +kernel)
set_option maxRecDepth 65536 in
theorem w_c29 : (Jvm.Cond.code ({ cls := "java/lang/Math", name := "abs", desc := "(I)I" } : Jvm.MethodName) jdk_29_method_59_code (1 : Nat) (Option.some Jvm.ClassFile.FieldType.int)).before args0 about1 = true := code_word (m := ⟨22, 1⟩) (meth := k22m1) (c := k22c1) (by decide +kernel) rfl rfl rfl (by decide +kernel)
set_option maxRecDepth 65536 in
theorem w_c30 : (Jvm.Cond.code ({ cls := "java/lang/StringBuilder", name := "<init>", desc := "(I)V" } : Jvm.MethodName) jdk_67_method_2_code (2 : Nat) (Option.none : Option Jvm.ClassFile.FieldType)).before args0 about1 = true := code_word (m := ⟨11, 1⟩) (meth := k11m1) (c := k11c1) (by decide +kernel) rfl rfl rfl (by decide +kernel)
set_option maxRecDepth 65536 in
theorem w_c31 : (Jvm.Cond.code ({ cls := "java/lang/StringBuilder", name := "append", desc := "(I)Ljava/lang/StringBuilder;" } : Jvm.MethodName) jdk_67_method_15_code (2 : Nat) (Option.some (Jvm.ClassFile.FieldType.object "java/lang/StringBuilder"))).before args0 about1 = true := code_word (m := ⟨11, 3⟩) (meth := k11m3) (c := k11c3) (by decide +kernel) rfl rfl rfl (by decide +kernel)
set_option maxRecDepth 65536 in
theorem w_c32 : (Jvm.Cond.code ({ cls := "java/lang/AbstractStringBuilder", name := "append", desc := "(I)Ljava/lang/AbstractStringBuilder;" } : Jvm.MethodName) jdk_68_method_32_code (4 : Nat) (Option.some (Jvm.ClassFile.FieldType.object "java/lang/AbstractStringBuilder"))).before args0 about1 = true := code_word (m := ⟨10, 5⟩) (meth := k10m5) (c := k10c5) (by decide +kernel) rfl rfl rfl (by decide +kernel)
set_option maxRecDepth 65536 in
theorem w_c33 : (Jvm.Cond.code ({ cls := "java/lang/Integer", name := "stringSize", desc := "(I)I" } : Jvm.MethodName) jdk_33_method_13_code (4 : Nat) (Option.some Jvm.ClassFile.FieldType.int)).before args0 about1 = true := code_word (m := ⟨24, 1⟩) (meth := k24m1) (c := k24c1) (by decide +kernel) rfl rfl rfl (by decide +kernel)
set_option maxRecDepth 65536 in
theorem w_c34 : (Jvm.Cond.code ({ cls := "java/lang/AbstractStringBuilder", name := "isLatin1", desc := "()Z" } : Jvm.MethodName) jdk_68_method_68_code (1 : Nat) (Option.some Jvm.ClassFile.FieldType.boolean)).before args0 about1 = true := code_word (m := ⟨10, 7⟩) (meth := k10m7) (c := k10c7) (by decide +kernel) rfl rfl rfl (by decide +kernel)
set_option maxRecDepth 65536 in
theorem w_c35 : (Jvm.Cond.code ({ cls := "java/lang/Integer", name := "getChars", desc := "(II[B)I" } : Jvm.MethodName) jdk_33_method_12_code (7 : Nat) (Option.some Jvm.ClassFile.FieldType.int)).before args0 about1 = true := code_word (m := ⟨24, 0⟩) (meth := k24m0) (c := k24c0) (by decide +kernel) rfl rfl rfl (by decide +kernel)
set_option maxRecDepth 65536 in
theorem w_c36 : (Jvm.Cond.code ({ cls := "java/lang/StringBuilder", name := "toString", desc := "()Ljava/lang/String;" } : Jvm.MethodName) jdk_67_method_42_code (1 : Nat) (Option.some (Jvm.ClassFile.FieldType.object "java/lang/String"))).before args0 about1 = true := code_word (m := ⟨11, 4⟩) (meth := k11m4) (c := k11c4) (by decide +kernel) rfl rfl rfl (by decide +kernel)
set_option maxRecDepth 65536 in
theorem w_c37 : (Jvm.Cond.code ({ cls := "java/lang/String", name := "<init>", desc := "(Ljava/lang/StringBuilder;)V" } : Jvm.MethodName) jdk_42_method_53_code (2 : Nat) (Option.none : Option Jvm.ClassFile.FieldType)).before args0 about1 = true := code_word (m := ⟨8, 1⟩) (meth := k8m1) (c := k8c1) (by decide +kernel) rfl rfl rfl (by decide +kernel)
set_option maxRecDepth 65536 in
theorem w_c38 : (Jvm.Cond.code ({ cls := "java/lang/String", name := "<init>", desc := "(Ljava/lang/AbstractStringBuilder;Ljava/lang/Void;)V" } : Jvm.MethodName) jdk_42_method_150_code (5 : Nat) (Option.none : Option Jvm.ClassFile.FieldType)).before args0 about1 = true := code_word (m := ⟨8, 5⟩) (meth := k8m5) (c := k8c5) (by decide +kernel) rfl rfl rfl (by decide +kernel)
set_option maxRecDepth 65536 in
theorem w_c39 : (Jvm.Cond.code ({ cls := "java/lang/AbstractStringBuilder", name := "getValue", desc := "()[B" } : Jvm.MethodName) jdk_68_method_64_code (1 : Nat) (Option.some (Jvm.ClassFile.FieldType.array Jvm.ClassFile.FieldType.byte))).before args0 about1 = true := code_word (m := ⟨10, 6⟩) (meth := k10m6) (c := k10c6) (by decide +kernel) rfl rfl rfl (by decide +kernel)
set_option maxRecDepth 65536 in
theorem w_c40 : (Jvm.Cond.code ({ cls := "java/lang/StringBuilder", name := "length", desc := "()I" } : Jvm.MethodName) jdk_67_method_93_code (1 : Nat) (Option.some Jvm.ClassFile.FieldType.int)).before args0 about1 = true := code_word (m := ⟨11, 5⟩) (meth := k11m5) (c := k11c5) (by decide +kernel) rfl rfl rfl (by decide +kernel)
set_option maxRecDepth 65536 in
theorem w_c41 : (Jvm.Cond.code ({ cls := "java/lang/AbstractStringBuilder", name := "length", desc := "()I" } : Jvm.MethodName) jdk_68_method_6_code (1 : Nat) (Option.some Jvm.ClassFile.FieldType.int)).before args0 about1 = true := code_word (m := ⟨10, 2⟩) (meth := k10m2) (c := k10c2) (by decide +kernel) rfl rfl rfl (by decide +kernel)
set_option maxRecDepth 65536 in
theorem w_c42 : (Jvm.Cond.code ({ cls := "java/util/Arrays", name := "copyOfRange", desc := "([BII)[B" } : Jvm.MethodName) jdk_65_method_132_code (3 : Nat) (Option.some (Jvm.ClassFile.FieldType.array Jvm.ClassFile.FieldType.byte))).before args0 about1 = true := code_word (m := ⟨25, 2⟩) (meth := k25m2) (c := k25c2) (by decide +kernel) rfl rfl rfl (by decide +kernel)
set_option maxRecDepth 65536 in
theorem w_c43 : (Jvm.Cond.code ({ cls := "java/util/Arrays", name := "copyOfRangeByte", desc := "([BII)[B" } : Jvm.MethodName) jdk_65_method_133_code (5 : Nat) (Option.some (Jvm.ClassFile.FieldType.array Jvm.ClassFile.FieldType.byte))).before args0 about1 = true := code_word (m := ⟨25, 3⟩) (meth := k25m3) (c := k25c3) (by decide +kernel) rfl rfl rfl (by decide +kernel)
set_option maxRecDepth 65536 in
theorem w_c44 : (Jvm.Cond.code ({ cls := "java/util/Arrays", name := "checkLength", desc := "(II)V" } : Jvm.MethodName) jdk_65_method_131_code (2 : Nat) (Option.none : Option Jvm.ClassFile.FieldType)).before args0 about1 = true := code_word (m := ⟨25, 1⟩) (meth := k25m1) (c := k25c1) (by decide +kernel) rfl rfl rfl (by decide +kernel)
set_option maxRecDepth 65536 in
theorem w_c45 : (Jvm.Cond.code ({ cls := "java/lang/Math", name := "min", desc := "(II)I" } : Jvm.MethodName) jdk_29_method_69_code (2 : Nat) (Option.some Jvm.ClassFile.FieldType.int)).before args0 about1 = true := code_word (m := ⟨22, 2⟩) (meth := k22m2) (c := k22c2) (by decide +kernel) rfl rfl rfl (by decide +kernel)
set_option maxRecDepth 65536 in
theorem w_c46 : (Jvm.Cond.code ({ cls := "java/lang/StringLatin1", name := "equals", desc := "([B[B)Z" } : Jvm.MethodName) jdk_43_method_13_code (3 : Nat) (Option.some Jvm.ClassFile.FieldType.boolean)).before args0 about1 = true := code_word (m := ⟨27, 1⟩) (meth := k27m1) (c := k27c1) (by decide +kernel) rfl rfl rfl (by decide +kernel)
def codes1 : List Jvm.Cond := [Jvm.Cond.code x code maxLocals ret, Jvm.Cond.code ({ cls := "com/example/sorted_set_patterns/sortedsetpatterns/Periods", name := "days", desc := "()Lcom/example/sorted_set_patterns/sortedsetpatterns/Periods;" } : Jvm.MethodName) prog_5_method_4_code (0 : Nat) (Option.some (Jvm.ClassFile.FieldType.object "com/example/sorted_set_patterns/sortedsetpatterns/Periods")), Jvm.Cond.code ({ cls := "com/example/sorted_set_patterns/sortedsetpatterns/Periods", name := "<init>", desc := "(Ljava/lang/String;ZJJ)V" } : Jvm.MethodName) prog_5_method_1_code (7 : Nat) (Option.none : Option Jvm.ClassFile.FieldType), Jvm.Cond.code ({ cls := "java/lang/Object", name := "<init>", desc := "()V" } : Jvm.MethodName) object_method_1_code (1 : Nat) (Option.none : Option Jvm.ClassFile.FieldType), Jvm.Cond.code ({ cls := "com/example/sorted_set_patterns/sortedsetpatterns/Periods", name := "number", desc := "(J)J" } : Jvm.MethodName) prog_5_method_5_code (3 : Nat) (Option.some Jvm.ClassFile.FieldType.long), Jvm.Cond.code ({ cls := "com/example/sorted_set_patterns/sortedsetpatterns/Periods", name := "end", desc := "(J)J" } : Jvm.MethodName) prog_5_method_6_code (3 : Nat) (Option.some Jvm.ClassFile.FieldType.long), Jvm.Cond.code ({ cls := "com/example/sorted_set_patterns/sortedsetpatterns/Periods", name := "toString", desc := "()Ljava/lang/String;" } : Jvm.MethodName) prog_5_method_10_code (1 : Nat) (Option.some (Jvm.ClassFile.FieldType.object "java/lang/String")), Jvm.Cond.code ({ cls := "java/lang/String", name := "equals", desc := "(Ljava/lang/Object;)Z" } : Jvm.MethodName) jdk_42_method_66_code (3 : Nat) (Option.some Jvm.ClassFile.FieldType.boolean), Jvm.Cond.code ({ cls := "com/example/sorted_set_patterns/sortedsetpatterns/Periods", name := "name", desc := "(J)Ljava/lang/String;" } : Jvm.MethodName) prog_5_method_7_code (3 : Nat) (Option.some (Jvm.ClassFile.FieldType.object "java/lang/String")), Jvm.Cond.code ({ cls := "java/lang/StringBuilder", name := "<init>", desc := "()V" } : Jvm.MethodName) jdk_67_method_1_code (1 : Nat) (Option.none : Option Jvm.ClassFile.FieldType), Jvm.Cond.code ({ cls := "java/lang/AbstractStringBuilder", name := "<init>", desc := "(I)V" } : Jvm.MethodName) jdk_68_method_2_code (2 : Nat) (Option.none : Option Jvm.ClassFile.FieldType), Jvm.Cond.code ({ cls := "java/lang/StringBuilder", name := "append", desc := "(Ljava/lang/String;)Ljava/lang/StringBuilder;" } : Jvm.MethodName) jdk_67_method_7_code (2 : Nat) (Option.some (Jvm.ClassFile.FieldType.object "java/lang/StringBuilder")), Jvm.Cond.code ({ cls := "java/lang/AbstractStringBuilder", name := "append", desc := "(Ljava/lang/String;)Ljava/lang/AbstractStringBuilder;" } : Jvm.MethodName) jdk_68_method_22_code (3 : Nat) (Option.some (Jvm.ClassFile.FieldType.object "java/lang/AbstractStringBuilder")), Jvm.Cond.code ({ cls := "java/lang/String", name := "length", desc := "()I" } : Jvm.MethodName) jdk_42_method_54_code (1 : Nat) (Option.some Jvm.ClassFile.FieldType.int), Jvm.Cond.code ({ cls := "java/lang/String", name := "coder", desc := "()B" } : Jvm.MethodName) jdk_42_method_152_code (1 : Nat) (Option.some Jvm.ClassFile.FieldType.byte), Jvm.Cond.code ({ cls := "java/lang/AbstractStringBuilder", name := "ensureCapacityInternal", desc := "(I)V" } : Jvm.MethodName) jdk_68_method_9_code (3 : Nat) (Option.none : Option Jvm.ClassFile.FieldType), Jvm.Cond.code ({ cls := "java/lang/AbstractStringBuilder", name := "putStringAt", desc := "(ILjava/lang/String;)V" } : Jvm.MethodName) jdk_68_method_73_code (3 : Nat) (Option.none : Option Jvm.ClassFile.FieldType), Jvm.Cond.code ({ cls := "java/lang/AbstractStringBuilder", name := "inflateIfNeededFor", desc := "(Ljava/lang/String;)V" } : Jvm.MethodName) jdk_68_method_71_code (2 : Nat) (Option.none : Option Jvm.ClassFile.FieldType), Jvm.Cond.code ({ cls := "java/lang/String", name := "getBytes", desc := "([BIB)V" } : Jvm.MethodName) jdk_42_method_147_code (4 : Nat) (Option.none : Option Jvm.ClassFile.FieldType), Jvm.Cond.code ({ cls := "com/example/sorted_set_patterns/sortedsetpatterns/Periods", name := "label", desc := "(J)Ljava/lang/String;" } : Jvm.MethodName) prog_5_method_9_code (3 : Nat) (Option.some (Jvm.ClassFile.FieldType.object "java/lang/String")), Jvm.Cond.code ({ cls := "java/time/LocalDate", name := "ofEpochDay", desc := "(J)Ljava/time/LocalDate;" } : Jvm.MethodName) jdk_2323_method_8_code (14 : Nat) (Option.some (Jvm.ClassFile.FieldType.object "java/time/LocalDate")), Jvm.Cond.code ({ cls := "java/time/temporal/ChronoField", name := "checkValidValue", desc := "(J)J" } : Jvm.MethodName) jdk_2395_method_11_code (3 : Nat) (Option.some Jvm.ClassFile.FieldType.long), Jvm.Cond.code ({ cls := "java/time/temporal/ChronoField", name := "range", desc := "()Ljava/time/temporal/ValueRange;" } : Jvm.MethodName) jdk_2395_method_8_code (1 : Nat) (Option.some (Jvm.ClassFile.FieldType.object "java/time/temporal/ValueRange")), Jvm.Cond.code ({ cls := "java/time/temporal/ValueRange", name := "checkValidValue", desc := "(JLjava/time/temporal/TemporalField;)J" } : Jvm.MethodName) jdk_2423_method_13_code (4 : Nat) (Option.some Jvm.ClassFile.FieldType.long), Jvm.Cond.code ({ cls := "java/time/temporal/ValueRange", name := "isValidValue", desc := "(J)Z" } : Jvm.MethodName) jdk_2423_method_11_code (3 : Nat) (Option.some Jvm.ClassFile.FieldType.boolean), Jvm.Cond.code ({ cls := "java/time/temporal/ValueRange", name := "getMinimum", desc := "()J" } : Jvm.MethodName) jdk_2423_method_6_code (1 : Nat) (Option.some Jvm.ClassFile.FieldType.long), Jvm.Cond.code ({ cls := "java/time/temporal/ValueRange", name := "getMaximum", desc := "()J" } : Jvm.MethodName) jdk_2423_method_9_code (1 : Nat) (Option.some Jvm.ClassFile.FieldType.long), Jvm.Cond.code ({ cls := "java/time/LocalDate", name := "<init>", desc := "(III)V" } : Jvm.MethodName) jdk_2323_method_14_code (4 : Nat) (Option.none : Option Jvm.ClassFile.FieldType), Jvm.Cond.code ({ cls := "java/time/LocalDate", name := "toString", desc := "()Ljava/lang/String;" } : Jvm.MethodName) jdk_2323_method_76_code (6 : Nat) (Option.some (Jvm.ClassFile.FieldType.object "java/lang/String")), Jvm.Cond.code ({ cls := "java/lang/Math", name := "abs", desc := "(I)I" } : Jvm.MethodName) jdk_29_method_59_code (1 : Nat) (Option.some Jvm.ClassFile.FieldType.int), Jvm.Cond.code ({ cls := "java/lang/StringBuilder", name := "<init>", desc := "(I)V" } : Jvm.MethodName) jdk_67_method_2_code (2 : Nat) (Option.none : Option Jvm.ClassFile.FieldType), Jvm.Cond.code ({ cls := "java/lang/StringBuilder", name := "append", desc := "(I)Ljava/lang/StringBuilder;" } : Jvm.MethodName) jdk_67_method_15_code (2 : Nat) (Option.some (Jvm.ClassFile.FieldType.object "java/lang/StringBuilder")), Jvm.Cond.code ({ cls := "java/lang/AbstractStringBuilder", name := "append", desc := "(I)Ljava/lang/AbstractStringBuilder;" } : Jvm.MethodName) jdk_68_method_32_code (4 : Nat) (Option.some (Jvm.ClassFile.FieldType.object "java/lang/AbstractStringBuilder")), Jvm.Cond.code ({ cls := "java/lang/Integer", name := "stringSize", desc := "(I)I" } : Jvm.MethodName) jdk_33_method_13_code (4 : Nat) (Option.some Jvm.ClassFile.FieldType.int), Jvm.Cond.code ({ cls := "java/lang/AbstractStringBuilder", name := "isLatin1", desc := "()Z" } : Jvm.MethodName) jdk_68_method_68_code (1 : Nat) (Option.some Jvm.ClassFile.FieldType.boolean), Jvm.Cond.code ({ cls := "java/lang/Integer", name := "getChars", desc := "(II[B)I" } : Jvm.MethodName) jdk_33_method_12_code (7 : Nat) (Option.some Jvm.ClassFile.FieldType.int), Jvm.Cond.code ({ cls := "java/lang/StringBuilder", name := "toString", desc := "()Ljava/lang/String;" } : Jvm.MethodName) jdk_67_method_42_code (1 : Nat) (Option.some (Jvm.ClassFile.FieldType.object "java/lang/String")), Jvm.Cond.code ({ cls := "java/lang/String", name := "<init>", desc := "(Ljava/lang/StringBuilder;)V" } : Jvm.MethodName) jdk_42_method_53_code (2 : Nat) (Option.none : Option Jvm.ClassFile.FieldType), Jvm.Cond.code ({ cls := "java/lang/String", name := "<init>", desc := "(Ljava/lang/AbstractStringBuilder;Ljava/lang/Void;)V" } : Jvm.MethodName) jdk_42_method_150_code (5 : Nat) (Option.none : Option Jvm.ClassFile.FieldType), Jvm.Cond.code ({ cls := "java/lang/AbstractStringBuilder", name := "getValue", desc := "()[B" } : Jvm.MethodName) jdk_68_method_64_code (1 : Nat) (Option.some (Jvm.ClassFile.FieldType.array Jvm.ClassFile.FieldType.byte)), Jvm.Cond.code ({ cls := "java/lang/StringBuilder", name := "length", desc := "()I" } : Jvm.MethodName) jdk_67_method_93_code (1 : Nat) (Option.some Jvm.ClassFile.FieldType.int), Jvm.Cond.code ({ cls := "java/lang/AbstractStringBuilder", name := "length", desc := "()I" } : Jvm.MethodName) jdk_68_method_6_code (1 : Nat) (Option.some Jvm.ClassFile.FieldType.int), Jvm.Cond.code ({ cls := "java/util/Arrays", name := "copyOfRange", desc := "([BII)[B" } : Jvm.MethodName) jdk_65_method_132_code (3 : Nat) (Option.some (Jvm.ClassFile.FieldType.array Jvm.ClassFile.FieldType.byte)), Jvm.Cond.code ({ cls := "java/util/Arrays", name := "copyOfRangeByte", desc := "([BII)[B" } : Jvm.MethodName) jdk_65_method_133_code (5 : Nat) (Option.some (Jvm.ClassFile.FieldType.array Jvm.ClassFile.FieldType.byte)), Jvm.Cond.code ({ cls := "java/util/Arrays", name := "checkLength", desc := "(II)V" } : Jvm.MethodName) jdk_65_method_131_code (2 : Nat) (Option.none : Option Jvm.ClassFile.FieldType), Jvm.Cond.code ({ cls := "java/lang/Math", name := "min", desc := "(II)I" } : Jvm.MethodName) jdk_29_method_69_code (2 : Nat) (Option.some Jvm.ClassFile.FieldType.int), Jvm.Cond.code ({ cls := "java/lang/StringLatin1", name := "equals", desc := "([B[B)Z" } : Jvm.MethodName) jdk_43_method_13_code (3 : Nat) (Option.some Jvm.ClassFile.FieldType.boolean)]
set_option maxRecDepth 65536 in
theorem codes_eq : words1.filter isCode = codes1 := rfl
theorem w_codes : ∀ c ∈ words1.filter isCode, c.before args0 about1 = true := by
  rw [codes_eq]
  intro c hc
  simp only [codes1, List.mem_cons, List.not_mem_nil, or_false] at hc
  rcases hc with rfl | rfl | rfl | rfl | rfl | rfl | rfl | rfl | rfl | rfl | rfl | rfl | rfl | rfl | rfl | rfl | rfl | rfl | rfl | rfl | rfl | rfl | rfl | rfl | rfl | rfl | rfl | rfl | rfl | rfl | rfl | rfl | rfl | rfl | rfl | rfl | rfl | rfl | rfl | rfl | rfl | rfl | rfl | rfl | rfl | rfl | rfl
  · exact w_c0
  · exact w_c1
  · exact w_c2
  · exact w_c3
  · exact w_c4
  · exact w_c5
  · exact w_c6
  · exact w_c7
  · exact w_c8
  · exact w_c9
  · exact w_c10
  · exact w_c11
  · exact w_c12
  · exact w_c13
  · exact w_c14
  · exact w_c15
  · exact w_c16
  · exact w_c17
  · exact w_c18
  · exact w_c19
  · exact w_c20
  · exact w_c21
  · exact w_c22
  · exact w_c23
  · exact w_c24
  · exact w_c25
  · exact w_c26
  · exact w_c27
  · exact w_c28
  · exact w_c29
  · exact w_c30
  · exact w_c31
  · exact w_c32
  · exact w_c33
  · exact w_c34
  · exact w_c35
  · exact w_c36
  · exact w_c37
  · exact w_c38
  · exact w_c39
  · exact w_c40
  · exact w_c41
  · exact w_c42
  · exact w_c43
  · exact w_c44
  · exact w_c45
  · exact w_c46
set_option maxRecDepth 65536 in
theorem w_t1 : (words1.take 24).all (fun c => isCode c || c.before args0 about1) = true := by decide +kernel
set_option maxRecDepth 65536 in
theorem w_t2 : ((words1.drop 24).take 24).all (fun c => isCode c || c.before args0 about1) = true := by decide +kernel
set_option maxRecDepth 65536 in
theorem w_t3 : (((words1.drop 24).drop 24).take 24).all (fun c => isCode c || c.before args0 about1) = true := by decide +kernel
set_option maxRecDepth 65536 in
theorem w_t4 : ((((words1.drop 24).drop 24).drop 24).take 24).all (fun c => isCode c || c.before args0 about1) = true := by decide +kernel
set_option maxRecDepth 65536 in
theorem w_t5 : (((((words1.drop 24).drop 24).drop 24).drop 24).take 24).all (fun c => isCode c || c.before args0 about1) = true := by decide +kernel
set_option maxRecDepth 65536 in
theorem w_t6 : ((((((words1.drop 24).drop 24).drop 24).drop 24).drop 24).take 24).all (fun c => isCode c || c.before args0 about1) = true := by decide +kernel
set_option maxRecDepth 65536 in
theorem w_t7 : (((((((words1.drop 24).drop 24).drop 24).drop 24).drop 24).drop 24).take 24).all (fun c => isCode c || c.before args0 about1) = true := by decide +kernel
set_option maxRecDepth 65536 in
theorem w_t8 : ((((((((words1.drop 24).drop 24).drop 24).drop 24).drop 24).drop 24).drop 24).take 24).all (fun c => isCode c || c.before args0 about1) = true := by decide +kernel
set_option maxRecDepth 65536 in
theorem w_t9 : (((((((((words1.drop 24).drop 24).drop 24).drop 24).drop 24).drop 24).drop 24).drop 24).take 24).all (fun c => isCode c || c.before args0 about1) = true := by decide +kernel
set_option maxRecDepth 65536 in
theorem w_t10 : ((((((((((words1.drop 24).drop 24).drop 24).drop 24).drop 24).drop 24).drop 24).drop 24).drop 24).take 24).all (fun c => isCode c || c.before args0 about1) = true := by decide +kernel
set_option maxRecDepth 65536 in
theorem w_t11 : (((((((((((words1.drop 24).drop 24).drop 24).drop 24).drop 24).drop 24).drop 24).drop 24).drop 24).drop 24).take 24).all (fun c => isCode c || c.before args0 about1) = true := by decide +kernel
set_option maxRecDepth 65536 in
theorem w_t12 : ((((((((((((words1.drop 24).drop 24).drop 24).drop 24).drop 24).drop 24).drop 24).drop 24).drop 24).drop 24).drop 24).take 24).all (fun c => isCode c || c.before args0 about1) = true := by decide +kernel
set_option maxRecDepth 65536 in
theorem w_t13 : ((((((((((((words1.drop 24).drop 24).drop 24).drop 24).drop 24).drop 24).drop 24).drop 24).drop 24).drop 24).drop 24).drop 24).all (fun c => isCode c || c.before args0 about1) = true := by decide +kernel
theorem w_tables : (allAtoms (Jvm.Cond.code x code maxLocals ret :: tables_1)).before args0 about1 = true := by
  rw [allAtoms_all]
  show words1.all (fun c => c.before args0 about1) = true
  refine all_split ?_ w_codes
  rw [← List.take_append_drop 24 words1, List.all_append, w_t1, ← List.take_append_drop 24 (words1.drop 24), List.all_append, w_t2, ← List.take_append_drop 24 ((words1.drop 24).drop 24), List.all_append, w_t3, ← List.take_append_drop 24 (((words1.drop 24).drop 24).drop 24), List.all_append, w_t4, ← List.take_append_drop 24 ((((words1.drop 24).drop 24).drop 24).drop 24), List.all_append, w_t5, ← List.take_append_drop 24 (((((words1.drop 24).drop 24).drop 24).drop 24).drop 24), List.all_append, w_t6, ← List.take_append_drop 24 ((((((words1.drop 24).drop 24).drop 24).drop 24).drop 24).drop 24), List.all_append, w_t7, ← List.take_append_drop 24 (((((((words1.drop 24).drop 24).drop 24).drop 24).drop 24).drop 24).drop 24), List.all_append, w_t8, ← List.take_append_drop 24 ((((((((words1.drop 24).drop 24).drop 24).drop 24).drop 24).drop 24).drop 24).drop 24), List.all_append, w_t9, ← List.take_append_drop 24 (((((((((words1.drop 24).drop 24).drop 24).drop 24).drop 24).drop 24).drop 24).drop 24).drop 24), List.all_append, w_t10, ← List.take_append_drop 24 ((((((((((words1.drop 24).drop 24).drop 24).drop 24).drop 24).drop 24).drop 24).drop 24).drop 24).drop 24), List.all_append, w_t11, ← List.take_append_drop 24 (((((((((((words1.drop 24).drop 24).drop 24).drop 24).drop 24).drop 24).drop 24).drop 24).drop 24).drop 24).drop 24), List.all_append, w_t12, w_t13]
  rfl
set_option maxRecDepth 65536 in
theorem w_rest : rest_1_c.before args0 about1 = true := by decide +kernel
set_option maxRecDepth 65536 in
theorem w_case : (Jvm.Cond.and given_1 narrow_1).before args0 about1 = true := by decide +kernel
set_option maxRecDepth 65536 in
theorem w_consts : constsHeld consts_1 about1 := Jvm.Lit.constsHeldB_iff.mp (by decide +kernel)
theorem w_applies : (headSpec (Jvm.Cond.code x code maxLocals ret :: tables_1) room_1).applies x e0.platform about1 = true :=
  (Spec.applies_iff w_frames).mpr ⟨w_running, w_runnable, w_alone, w_named, w_hears, w_ripe, w_room, w_tables⟩
theorem atStart : AtStart classFile x code maxLocals ret World_1 tables_1 room_1 Calls_1 rest_1 Pre_1 launch0 p0 e0 about1 theMethod args0 below0 :=
  ⟨lists_1, trivial, launch0.admits_env _ _ _, launch0.least_env, fairChoices_fair.cas, fairChoices_fair.clock, w_frames, w_args, w_heap, w_applies, ⟨w_consts, trivial⟩, w_rest, w_case⟩
end start1
theorem witness_1 : WitnessClaimed_1 := ⟨start1.p0, start1.e0, start1.about1, start1.theMethod, start1.args0, start1.below0, start1.atStart⟩
end Jvm.Pilot.@@N@@
