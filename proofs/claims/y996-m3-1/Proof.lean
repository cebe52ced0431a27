import JvmDerived
import JvmDerived.Pilot.@@N@@Statement
import JvmDerived.Pilot.@@N@@Code
set_option linter.unusedVariables false
set_option linter.unusedSimpArgs false
namespace Jvm.RoadKit
open Sem ClassFile Op Lib Jvm.Stand Jvm.Free Jvm.LawKit
section OwnNew
variable {p : Program} {l : Launch} {e : Env} {R : Room} {s : State} {m : MethodId} {args : Array Value} {below : List Frame} {meth : Method} {c : Code} {T : State} {locs : List Loc} {cells slots : Nat} {h : Heap}
/-- from S the run comes to an end of which Q holds -/
def OwnGo (p : Program) (e : Env) (below : List Frame) (S : State) (Q : Outcome → State → Prop) : Prop :=
  ∃ s₂ o, Steps p.tables e below S s₂ ∧ s₂.status = .running ∧ Ended s₂ below o ∧ Q o s₂
theorem own_go {S : State} {Q : Outcome → State → Prop} (k : OwnGo p e below S Q) : ∃ s₂ o, Steps p.tables e below S s₂ ∧ s₂.status = .running ∧ Ended s₂ below o ∧ Q o s₂ := k
theorem own_back {S S' : State} {Q : Outcome → State → Prop} (h : ∀ t, Steps p.tables e below S' t → Steps p.tables e below S t) (k : OwnGo p e below S' Q) : OwnGo p e below S Q := by
  obtain ⟨s2, o, h1, h2⟩ := k
  exact ⟨s2, o, h _ h1, h2⟩
theorem own_seq {S S' : State} {Q : Outcome → State → Prop} (h : Steps p.tables e below S S') (k : OwnGo p e below S' Q) : OwnGo p e below S Q := own_back (fun _ ht => h.trans ht) k
abbrev OwnEnd (s : State) (Qf : Option Value → Heap → List Loc → Prop) (C S : Nat) : Outcome → State → Prop := fun o U' => ∃ v L, o = .returned v ∧ Qf v U'.heap L ∧ FrameEnd s o U' L C S
theorem own_end (X : Stand p l e R s m args below meth c T locs cells slots) (hlocks : meth.locks = false) {v : Option Value} (hv : meth.sig.returnType = none → v = none) {S : State} {Qf : Option Value → Heap → List Loc → Prop} {C Sl : Nat} (eT : T.heap = h) (hc : cells ≤ C) (hs : slots ≤ Sl) (hq : Qf v h locs)
    (step : ∀ fs : List Frame, (∀ (f : JFrame) (acts : List Action), f.method = m → f.locked = none → f.entered = [] → (doReturn e (T.setTop f) acts v).1 = T.setFrames fs) → Steps p.tables e below S (T.setFrames fs)) : OwnGo p e below S (OwnEnd s Qf C Sl) := by
  obtain ⟨fs, hr, hrun, hended, hW, hsame⟩ := X.leave (v := v) hv hlocks
  refine ⟨_, _, step fs hr, hrun, hended, v, locs, rfl, ?_, ⟨_, rfl⟩, hW, hsame.mono hc hs⟩
  show Qf v T.heap locs
  rw [eT]; exact hq
theorem own_hat {T : State} {h : Heap} {a : Addr} {c : Cell} (e : T.heap = h) (q : h[a]? = some c) : T.heap[a]? = some c := by rw [e]; exact q
theorem own_hle {T : State} {h : Heap} {k : Nat} (e : T.heap = h) (q : k ≤ h.size) : k ≤ T.heap.size := by rw [e]; exact q
theorem own_backN {Z : State} {a0 : Array Value} {y : MethodName} {bytes : ByteArray} {maxL : Nat} {ret : Option FieldType} {rm : Room} {len W : Nat} {as' : Array Value} {Q : Option Value → Heap → List Loc → Prop}
    (hM : MetFree l y (head1 [Cond.code y bytes maxL ret] rm) (fun a U => a = as' ∧ Z.Warmed39 U.vm ∧ U.heap = h) (fun _ _ _ _ _ => True) (fun _ U o U' => OwnEnd U Q rm.cells rm.slots o U'))
    (hZ : Z.Warmed39 s.vm) (wc : (Cond.code y bytes maxL ret).before a0 Z = true) (wz : (Cond.initialized y.cls).before a0 Z = true) (hf : rm.frames + 1 ≤ R.frames) (hl : W + (maxL + 11) + rm.locals ≤ R.locals) :
    Back l R p e below s args y len W (fun A a => a = as' ∧ A.U.heap = h ∧ A.cells + rm.cells ≤ R.cells ∧ A.slots + rm.slots ≤ R.slots)
      (fun A _ v B => ∃ L, Q v B.U.heap L ∧ B.locs = A.locs ++ L ∧ B.cells = A.cells + rm.cells ∧ B.slots = A.slots + rm.slots) := backOf (Q := Q) hM hZ wc wz hf hl
theorem own_retN (X : Stand p l e R s m args below meth c T locs cells slots) (hx : p.tables.exec = Jvm.exec) (hlocks : meth.locks = false) {pc : Nat} {Ls : Array Slot} {z : Int32} {t : FieldType} {rest : List Value} (hret : meth.sig.returnType = some t) (ht : t = .boolean ∨ t = .byte ∨ t = .char ∨ t = .short) (hn : nar t z = z)
    (hd : decode c.code pc = .ok (.ireturn, 1)) {Qf : Option Value → Heap → List Loc → Prop} {C Sl : Nat} (eT : T.heap = h) (hc : cells ≤ C) (hs : slots ≤ Sl) (hq : Qf (some (.int z)) h locs) : OwnGo p e below (T.setTop (mkF m pc Ls (.int z :: rest))) (OwnEnd s Qf C Sl) :=
  own_end X hlocks (fun h => by rw [hret] at h; cases h) eT hc hs hq fun fs hr => retN X hx hret ht hd (by rw [hn]; exact hr)
theorem own_retI (X : Stand p l e R s m args below meth c T locs cells slots) (hx : p.tables.exec = Jvm.exec) (hlocks : meth.locks = false) {pc : Nat} {Ls : Array Slot} {z : Int32} {rest : List Value} (hret : meth.sig.returnType = some .int)
    (hd : decode c.code pc = .ok (.ireturn, 1)) {Qf : Option Value → Heap → List Loc → Prop} {C Sl : Nat} (eT : T.heap = h) (hc : cells ≤ C) (hs : slots ≤ Sl) (hq : Qf (some (.int z)) h locs) : OwnGo p e below (T.setTop (mkF m pc Ls (.int z :: rest))) (OwnEnd s Qf C Sl) :=
  own_end X hlocks (fun h => by rw [hret] at h; cases h) eT hc hs hq fun fs hr => retOut X hx hret rfl (Or.inl ⟨rfl, Or.inl rfl, z, rfl⟩) hd hr
theorem own_retJ (X : Stand p l e R s m args below meth c T locs cells slots) (hx : p.tables.exec = Jvm.exec) (hlocks : meth.locks = false) {pc : Nat} {Ls : Array Slot} {z : Int64} {rest : List Value} (hret : meth.sig.returnType = some .long)
    (hd : decode c.code pc = .ok (.lreturn, 1)) {Qf : Option Value → Heap → List Loc → Prop} {C Sl : Nat} (eT : T.heap = h) (hc : cells ≤ C) (hs : slots ≤ Sl) (hq : Qf (some (.long z)) h locs) : OwnGo p e below (T.setTop (mkF m pc Ls (.long z :: rest))) (OwnEnd s Qf C Sl) :=
  own_end X hlocks (fun h => by rw [hret] at h; cases h) eT hc hs hq fun fs hr => retOut X hx hret rfl (Or.inr (Or.inl ⟨rfl, rfl, z, rfl⟩)) hd hr
theorem own_narA {t : FieldType} {w : Value} (h : w.isRef = true) : narrow t w = w := by
  rcases ref_cases h with rfl | ⟨a, rfl⟩ <;> cases t <;> rfl
theorem own_retA (X : Stand p l e R s m args below meth c T locs cells slots) (hx : p.tables.exec = Jvm.exec) (hlocks : meth.locks = false) {pc : Nat} {Ls : Array Slot} {w : Value} {t : FieldType} {rest : List Value} (hret : meth.sig.returnType = some t) (ht : t.isReference = true) (hw : w.isRef = true)
    (hd : decode c.code pc = .ok (.areturn, 1)) {Qf : Option Value → Heap → List Loc → Prop} {C Sl : Nat} (eT : T.heap = h) (hc : cells ≤ C) (hs : slots ≤ Sl) (hq : Qf (some w) h locs) : OwnGo p e below (T.setTop (mkF m pc Ls (w :: rest))) (OwnEnd s Qf C Sl) :=
  own_end X hlocks (fun h => by rw [hret] at h; cases h) eT hc hs hq fun fs hr => retOut X hx hret (own_narA hw) (Or.inr (Or.inr (Or.inr (Or.inr ⟨rfl, ht, hw⟩)))) hd hr
theorem own_retV (X : Stand p l e R s m args below meth c T locs cells slots) (hx : p.tables.exec = Jvm.exec) (hlocks : meth.locks = false) {pc : Nat} {Ls : Array Slot} (hret : meth.sig.returnType = none)
    (hd : decode c.code pc = .ok (.return_, 1)) {Qf : Option Value → Heap → List Loc → Prop} {C Sl : Nat} (eT : T.heap = h) (hc : cells ≤ C) (hs : slots ≤ Sl) (hq : Qf none h locs) : OwnGo p e below (T.setTop (mkF m pc Ls [])) (OwnEnd s Qf C Sl) :=
  own_end X hlocks (fun _ => rfl) eT hc hs hq fun fs hr => X.returnOut hx hret hd hr
end OwnNew
section OwnTerms
variable {args : Array Value} {first s : State} {o : Option Outcome} {idx : List Nat} {t u : Term}
theorem own_eqint {k : Int32} (h : (Cond.eq t (.int k)).value args first o s idx = some true) : t.eval args first o idx s = some (.int k) := by
  cases ha : t.eval args first o idx s with
  | none => simp [Cond.value, ha] at h
  | some x =>
    have hb : (Term.int k).eval args first o idx s = some (.int k) := Term.int_eval k
    cases x <;> simp [Cond.value, ha, hb, Value.isRef] at h ⊢
    exact h
theorem own_eqref {w : Addr} (hu : u.eval args first o idx s = some (.ref w)) (h : (Cond.eq t u).value args first o s idx = some true) : t.eval args first o idx s = some (.ref w) := by
  cases ha : t.eval args first o idx s with
  | none => simp [Cond.value, ha] at h
  | some x =>
    cases x <;> simp [Cond.value, ha, hu, Value.isRef] at h ⊢
    exact h
end OwnTerms
section OwnArr
variable {s : State} {args : Array Value} {t u : Term} {a : Addr} {c : Cell} {ty : FieldType}
theorem own_nat32 {n : Nat} (h : n < 2 ^ 31) : n.toInt32.toNatClampNeg = n := by
  have e : n.toInt32.toInt = n := Int32.toInt_ofNat_of_lt h
  have := nat_of (j := n.toInt32) (by rw [Int32.lt_iff_toInt_lt, e]; have z : (0 : Int32).toInt = 0 := rfl; omega)
  omega
theorem own_len {n : Int32} (A : Arr s s.heap a c ty) (et : t.eval args s none [] s = some (.ref a)) (h : (Cond.eq (.length t) (.int n)).value args s none s [] = some true) {k : Nat} (hk : n.toNatClampNeg = k := by rfl) : c.slots.size = k := by
  have e := own_eqint h
  have ha : s.arrayAt? a = some c := IntBox.arrayAt_of A.1 A.2.1 A.2.2
  by_cases hl : c.slots.size < 2 ^ 31
  · rw [len_f et ha hl] at e
    have e2 : c.slots.size.toInt32 = n := by injection e with e; injection e
    rw [← hk, ← e2]
    exact (own_nat32 hl).symm
  · simp [Term.eval, et, ha, hl] at e
theorem own_elem {j k : Int32} (A : Arr s s.heap a c ty) (et : t.eval args s none [] s = some (.ref a)) (h : (Cond.eq (.elem t (.int j)) (.int k)).value args s none s [] = some true) (hj : ¬ j < 0) : c.slots[j.toNatClampNeg]? = some (.int k) := by
  have e := own_eqint h
  have ha : s.arrayAt? a = some c := IntBox.arrayAt_of A.1 A.2.1 A.2.2
  rw [elem_f et (Term.int_eval j) ha hj] at e
  exact e
theorem own_elemR {j : Int32} {w : Addr} (A : Arr s s.heap a c ty) (et : t.eval args s none [] s = some (.ref a)) (hu : u.eval args s none [] s = some (.ref w)) (h : (Cond.eq (.elem t (.int j)) u).value args s none s [] = some true) (hj : ¬ j < 0) : c.slots[j.toNatClampNeg]? = some (.ref w) := by
  have e := own_eqref hu h
  have ha : s.arrayAt? a = some c := IntBox.arrayAt_of A.1 A.2.1 A.2.2
  rw [elem_f et (Term.int_eval j) ha hj] at e
  exact e
end OwnArr
section OwnMore
variable {Z : State} {h h' : Heap}
theorem own_arr_ne {a b : Addr} {c d : Cell} {t u : FieldType} (A : Arr Z h a c t) (B : Arr Z h b d u) (q : t ≠ u) : a ≠ b := fun e => by
  subst e
  cases A.1.symm.trans B.1
  obtain ⟨-, k1, h1, cp1, h2⟩ := A.2.1
  obtain ⟨-, k2, h3, cp2, h4⟩ := B.2.1
  cases h1.symm.trans h3
  rw [h2] at h4
  injection h4 with _ h5
  exact q h5
theorem own_arv_ne {a b : Addr} {k k' : ClassId} {t u : FieldType} {z z' : Int32} {vs vs' : List Value} {d d' : Value} (A : Arv Z h a k t z vs d) (B : Arv Z h b k' u z' vs' d') (q : t ≠ u) : a ≠ b := by
  obtain ⟨c, A, -⟩ := A
  obtain ⟨c', B, -⟩ := B
  exact own_arr_ne A B q
theorem own_ext (K : Keep h h' []) : Ext h h' := ⟨K.1, fun x c q => K.2.1 x c q nin0⟩
theorem own_fitA {t : FieldType} {w : Value} (hw : w.isRef = true) (ht : t.isReference = true := by rfl) : fits t w = true := by
  rcases ref_cases hw with rfl | ⟨a, rfl⟩ <;> cases t <;> first | rfl | cases ht
end OwnMore
section OwnRem
variable {p : Program} {l : Launch} {e : Env} {R : Room} {s : State} {m : MethodId} {args : Array Value} {below : List Frame} {meth : Method} {c : Code} {T : State} {locs : List Loc} {cells slots : Nat}
theorem own_lrem {g : JFrame} {target : State} (X : Stand p l e R s m args below meth c T locs cells slots) (hx : p.tables.exec = Jvm.exec) (hg : g.method = m) {x y : Int64} {rest : List Value} (hd : decode c.code g.pc = .ok (.lrem, 1)) (hs : g.stack = .long y :: .long x :: rest) (hy : y ≠ 0)
    (hr : Steps p.tables e below (T.setTop { g with pc := g.pc + 1, stack := .long (x % y) :: rest }) target) : Steps p.tables e below (T.setTop g) target :=
  XS.lrem X.here hx hg hd hs hy (by rw [lrem_mod]; exact hr)
end OwnRem
end Jvm.RoadKit
namespace Jvm.RoadKit
open Sem ClassFile Op Lib Bundle Jvm.Stand Jvm.Free Jvm.LawKit Jvm.Free.SB Jvm.Free.SBG
section OwnWide
variable {p : Program} {l : Launch} {e : Env} {R : Room} {s : State} {m : MethodId} {args : Array Value} {below : List Frame} {meth : Method} {c : Code} {T : State} {locs : List Loc} {cells slots : Nat} {h h0 : Heap} {Z : State} {a0 : Array Value} {EL : List (String × Nat)} {vm0 : Vm} {k0 : Nat}
abbrev OwnEndW (Z : State) (EL : List (String × Nat)) (s : State) (Qf : Option Value → Heap → List Loc → Prop) (C S : Nat) : Outcome → State → Prop := fun o U' => ∃ v L, o = .returned v ∧ Qf v U'.heap L ∧ CHr Z EL s.vm s.heap U'.vm U'.heap ∧ ReturnedEndW s o U' L C S
theorem own_endW (X : Stand p l e R (s.setVm vm0) m args below meth c T locs cells slots) (hlocks : meth.locks = false) {v : Option Value} (hv : meth.sig.returnType = none → v = none) {S : State} {Qf : Option Value → Heap → List Loc → Prop} {C Sl : Nat}
    (hS : s.Since vm0 k0) (hk : k0 ≤ h.size) (hZ : Z.Warmed39 (s.setVm vm0).vm) (hEL : EW Z a0 EL) (CR : CHr Z EL s.vm s.heap vm0 h) (eT : T.heap = h) (hc : cells ≤ C) (hs : slots ≤ Sl) (hq : Qf v h locs)
    (step : ∀ fs : List Frame, (∀ (f : JFrame) (acts : List Action), f.method = m → f.locked = none → f.entered = [] → (doReturn e (T.setTop f) acts v).1 = T.setFrames fs) → Steps p.tables e below S (T.setFrames fs)) : OwnGo p e below S (OwnEndW Z EL s Qf C Sl) := by
  obtain ⟨fs, hr, hrun, hended, hw1, hw2, hw3, hw4⟩ := X.leaveW (v := v) hS (by rw [eT]; exact hk) hv hlocks
  refine ⟨_, _, step fs hr, hrun, hended, v, locs, rfl, ?_, ?_, hw1, hw2, hw3, hw4.mono hc hs⟩
  · show Qf v T.heap locs
    rw [eT]; exact hq
  · show CHr Z EL s.vm s.heap T.vm T.heap
    rw [eT]; exact CR.trans (CHv.at X hZ hEL CR.1)
theorem own_retNW (X : Stand p l e R (s.setVm vm0) m args below meth c T locs cells slots) (hx : p.tables.exec = Jvm.exec) (hlocks : meth.locks = false) {pc : Nat} {Ls : Array Slot} {z : Int32} {t : FieldType} {rest : List Value} (hret : meth.sig.returnType = some t) (ht : t = .boolean ∨ t = .byte ∨ t = .char ∨ t = .short) (hn : nar t z = z)
    (hS : s.Since vm0 k0) (hk : k0 ≤ h.size) (hZ : Z.Warmed39 (s.setVm vm0).vm) (hEL : EW Z a0 EL) (CR : CHr Z EL s.vm s.heap vm0 h)
    (hd : decode c.code pc = .ok (.ireturn, 1)) {Qf : Option Value → Heap → List Loc → Prop} {C Sl : Nat} (eT : T.heap = h) (hc : cells ≤ C) (hs : slots ≤ Sl) (hq : Qf (some (.int z)) h locs) : OwnGo p e below (T.setTop (mkF m pc Ls (.int z :: rest))) (OwnEndW Z EL s Qf C Sl) :=
  own_endW X hlocks (fun h => by rw [hret] at h; cases h) hS hk hZ hEL CR eT hc hs hq fun fs hr => retN X hx hret ht hd (by rw [hn]; exact hr)
theorem own_retIW (X : Stand p l e R (s.setVm vm0) m args below meth c T locs cells slots) (hx : p.tables.exec = Jvm.exec) (hlocks : meth.locks = false) {pc : Nat} {Ls : Array Slot} {z : Int32} {rest : List Value} (hret : meth.sig.returnType = some .int)
    (hS : s.Since vm0 k0) (hk : k0 ≤ h.size) (hZ : Z.Warmed39 (s.setVm vm0).vm) (hEL : EW Z a0 EL) (CR : CHr Z EL s.vm s.heap vm0 h)
    (hd : decode c.code pc = .ok (.ireturn, 1)) {Qf : Option Value → Heap → List Loc → Prop} {C Sl : Nat} (eT : T.heap = h) (hc : cells ≤ C) (hs : slots ≤ Sl) (hq : Qf (some (.int z)) h locs) : OwnGo p e below (T.setTop (mkF m pc Ls (.int z :: rest))) (OwnEndW Z EL s Qf C Sl) :=
  own_endW X hlocks (fun h => by rw [hret] at h; cases h) hS hk hZ hEL CR eT hc hs hq fun fs hr => retOut X hx hret rfl (Or.inl ⟨rfl, Or.inl rfl, z, rfl⟩) hd hr
theorem own_retJW (X : Stand p l e R (s.setVm vm0) m args below meth c T locs cells slots) (hx : p.tables.exec = Jvm.exec) (hlocks : meth.locks = false) {pc : Nat} {Ls : Array Slot} {z : Int64} {rest : List Value} (hret : meth.sig.returnType = some .long)
    (hS : s.Since vm0 k0) (hk : k0 ≤ h.size) (hZ : Z.Warmed39 (s.setVm vm0).vm) (hEL : EW Z a0 EL) (CR : CHr Z EL s.vm s.heap vm0 h)
    (hd : decode c.code pc = .ok (.lreturn, 1)) {Qf : Option Value → Heap → List Loc → Prop} {C Sl : Nat} (eT : T.heap = h) (hc : cells ≤ C) (hs : slots ≤ Sl) (hq : Qf (some (.long z)) h locs) : OwnGo p e below (T.setTop (mkF m pc Ls (.long z :: rest))) (OwnEndW Z EL s Qf C Sl) :=
  own_endW X hlocks (fun h => by rw [hret] at h; cases h) hS hk hZ hEL CR eT hc hs hq fun fs hr => retOut X hx hret rfl (Or.inr (Or.inl ⟨rfl, rfl, z, rfl⟩)) hd hr
theorem own_retAW (X : Stand p l e R (s.setVm vm0) m args below meth c T locs cells slots) (hx : p.tables.exec = Jvm.exec) (hlocks : meth.locks = false) {pc : Nat} {Ls : Array Slot} {w : Value} {t : FieldType} {rest : List Value} (hret : meth.sig.returnType = some t) (ht : t.isReference = true) (hw : w.isRef = true)
    (hS : s.Since vm0 k0) (hk : k0 ≤ h.size) (hZ : Z.Warmed39 (s.setVm vm0).vm) (hEL : EW Z a0 EL) (CR : CHr Z EL s.vm s.heap vm0 h)
    (hd : decode c.code pc = .ok (.areturn, 1)) {Qf : Option Value → Heap → List Loc → Prop} {C Sl : Nat} (eT : T.heap = h) (hc : cells ≤ C) (hs : slots ≤ Sl) (hq : Qf (some w) h locs) : OwnGo p e below (T.setTop (mkF m pc Ls (w :: rest))) (OwnEndW Z EL s Qf C Sl) :=
  own_endW X hlocks (fun h => by rw [hret] at h; cases h) hS hk hZ hEL CR eT hc hs hq fun fs hr => retOut X hx hret (own_narA hw) (Or.inr (Or.inr (Or.inr (Or.inr ⟨rfl, ht, hw⟩)))) hd hr
theorem own_retVW (X : Stand p l e R (s.setVm vm0) m args below meth c T locs cells slots) (hx : p.tables.exec = Jvm.exec) (hlocks : meth.locks = false) {pc : Nat} {Ls : Array Slot} (hret : meth.sig.returnType = none)
    (hS : s.Since vm0 k0) (hk : k0 ≤ h.size) (hZ : Z.Warmed39 (s.setVm vm0).vm) (hEL : EW Z a0 EL) (CR : CHr Z EL s.vm s.heap vm0 h)
    (hd : decode c.code pc = .ok (.return_, 1)) {Qf : Option Value → Heap → List Loc → Prop} {C Sl : Nat} (eT : T.heap = h) (hc : cells ≤ C) (hs : slots ≤ Sl) (hq : Qf none h locs) : OwnGo p e below (T.setTop (mkF m pc Ls [])) (OwnEndW Z EL s Qf C Sl) :=
  own_endW X hlocks (fun _ => rfl) hS hk hZ hEL CR eT hc hs hq fun fs hr => X.returnOut hx hret hd hr
/-- a callee that may intern and keeps the invariant; the cells SL are no booked Strings' -/
theorem own_backH {y : MethodName} {bytes : ByteArray} {maxL : Nat} {ret : Option FieldType} {rm : Room} {len W : Nat} {as' : Array Value} {Q : Option Value → Heap → List Loc → Prop} {SL : List Addr}
    (hM : MetFree l y (head1 [Cond.code y bytes maxL ret] rm) (fun a U => a = as' ∧ Z.Warmed39 U.vm ∧ U.heap = h ∧ CHv Z EL U.vm h ∧ ∀ x ∈ SL, Safe Z EL U.vm h x) (fun _ _ _ _ _ => True) (fun _ U o U' => OwnEndW Z EL U Q rm.cells rm.slots o U'))
    (hZ : Z.Warmed39 (s.setVm vm0).vm) (wc : (Cond.code y bytes maxL ret).before a0 Z = true) (wz : (Cond.initialized y.cls).before a0 Z = true) (hf : rm.frames + 1 ≤ R.frames) (hl : W + (maxL + 11) + rm.locals ≤ R.locals) (hEL : EW Z a0 EL) (H : CHv Z EL vm0 h) (hsf : ∀ x ∈ SL, Safe Z EL vm0 h x) (hlt : ∀ x ∈ SL, x < h.size) :
    BackS l R p e below (s.setVm vm0) args y len W (fun A a => a = as' ∧ A.U.heap = h ∧ A.cells + rm.cells ≤ R.cells ∧ A.slots + rm.slots ≤ R.slots)
      (fun A _ v B => ∃ L, Q v B.U.heap L ∧ B.locs = A.locs ++ L ∧ B.cells = A.cells + rm.cells ∧ B.slots = A.slots + rm.slots ∧ CHr Z EL vm0 h B.U.vm B.U.heap) :=
  have hZ' : Z.Warmed39 vm0 := hZ
  BackS.of_freeW (bytes := bytes) (maxL := maxL) (ret := ret) (E := fun _ first o t L k n => k = rm.cells ∧ n = rm.slots ∧ (∃ v, o = .returned v ∧ Q v t.heap L) ∧ CHr Z EL first.vm first.heap t.vm t.heap) hM hf hl
    (fun m meth c A a Y hp => have hU : Z.Warmed39 A.U.vm := wtrans (s := s.setVm vm0) hZ' Y.warmed
      ⟨by show (Cond.and _ .tt).before a A.U = true; rw [Cond.before_and, mv hU wc]; rfl, mv hU wc, mv hU wz, hp.2.2.1, hp.2.2.2⟩)
    (fun m meth c A a g mk Y hp => ⟨hp.1, wtrans (s := s.setVm vm0) hZ' Y.warmed, hp.2.1, (CHv.at Y hZ' hEL H).1, fun x hx => (CHv.at Y hZ' hEL H).safe (hlt x hx) (hsf x hx)⟩) (fun _ _ _ _ _ _ _ _ _ => trivial)
    (fun _ _ _ _ ⟨v, L, h1, h2, h3, h4⟩ => ⟨L, _, _, h4, rfl, rfl, ⟨v, h1, h2⟩, h3⟩)
    (fun m meth c A a g mk v t L k n Y hp _ _ ⟨e1, e2, ⟨v', e3, e4⟩, e5⟩ => by
      cases e3; subst e1 e2
      refine ⟨L, e4, rfl, rfl, rfl, (CHv.at Y hZ' hEL H).trans ?_⟩
      rw [← hp.2.1]; exact e5)
/-- where a wide walk stands: all that its steps ask, bundled -/
def OwnSt (p : Program) (l : Launch) (e : Env) (R : Room) (s : State) (m : MethodId) (args : Array Value) (below : List Frame) (meth : Method) (c : Code) (Z : State) (EL : List (String × Nat)) (own : String) (n0 : Nat) (h0 : Heap) (ws : List Addr) (T : State) (h : Heap) (cells slots : Nat) : Prop :=
  ∃ (vm0 : Vm) (k0 : Nat) (locs : List Loc), Stand p l e R (s.setVm vm0) m args below meth c T locs cells slots ∧ T.heap = h ∧ s.Since vm0 k0 ∧ k0 ≤ h.size ∧ Z.Warmed39 (s.setVm vm0).vm ∧ (s.setVm vm0).vm.findClass own = some m.cls ∧ CHr Z EL s.vm h0 vm0 h ∧ Old Z n0 h ∧ Keep h0 h ws ∧ n0 ≤ h.size ∧ Fr n0 locs
end OwnWide
end Jvm.RoadKit
namespace Jvm.Pilot.@@N@@
open Jvm Jvm.ClassFile Sem Op Lib Jvm.Free Jvm.Stand Jvm.LawKit Jvm.RoadKit Bundle Jvm.Pilot.@@N@@.Jvm.D
abbrev own_EL : List (String × Nat) := consts_1
theorem own_EW {Z : State} {a0 : Array Value} (hw : ∀ d ∈ tables_1, d.before a0 Z = true) : EW Z a0 own_EL := (EW.cons (hw _ (List.mem_of_getElem? (i := 32) rfl)) (by decide +kernel) (EW.cons (hw _ (List.mem_of_getElem? (i := 84) rfl)) (by decide +kernel) (EW.cons (hw _ (List.mem_of_getElem? (i := 7) rfl)) (by decide +kernel) (EW.cons (hw _ (List.mem_of_getElem? (i := 101) rfl)) (by decide +kernel) EW.nil))))
theorem own_wS {Z : State} {a0 : Array Value} (hw : ∀ d ∈ tables_1, d.before a0 Z = true) : ∀ a ∈ Bundle.stringAtoms, a.before a0 Z = true := fun d hd => hw d ((by decide +kernel : ∀ d ∈ Bundle.stringAtoms, d ∈ tables_1) d hd)

/-- a is an ordinary Latin-1 String whose bytes are bs -/
def OwnStr (Z : State) (h : Heap) (a : Addr) (bs : List Int32) : Prop := ∃ (t : Addr) (k : ClassId), Exa Z h a "java/lang/String" ∧ Fld Z h a "java/lang/String" "coder" "B" (.int 0) ∧ Fld Z h a "java/lang/String" "value" "[B" (.ref t) ∧ Arv Z h t k .byte (Int32.ofNat bs.length) (bs.map Value.int) (.int 0) ∧ bs.length ≤ 4000
theorem OwnStr.ext {Z : State} {h h' : Heap} {a : Addr} {bs : List Int32} (E : Ext h h') (F : OwnStr Z h a bs) : OwnStr Z h' a bs := by
  obtain ⟨t, k, h1, h2, h3, h4, h5⟩ := F
  exact ⟨t, k, h1.ext E, h2.ext E, h3.ext E, h4.ext E, h5⟩
theorem OwnStr.exa {Z : State} {h : Heap} {a : Addr} {bs : List Int32} (F : OwnStr Z h a bs) : Exa Z h a "java/lang/String" := by
  obtain ⟨t, k, h1, h2, h3, h4, h5⟩ := F
  exact h1
theorem own_exaarv {Z : State} {h : Heap} {t w : Addr} {C : String} {k : ClassId} {ty : FieldType} {z : Int32} {vs : List Value} {d : Value} {a0 : Array Value} {n : Nat} (A : Arv Z h t k ty z vs d) (E : Exa Z h w C) (wi : (Cond.instantiable C n).before a0 Z = true) : t ≠ w := Ne.symm (Exa.neArv E A wi)
theorem OwnStr.wrA {Z : State} {h h' : Heap} {a w : Addr} {bs : List Int32} {sl : Nat} {v : Value} {k : ClassId} {ty : FieldType} {z : Int32} {vs : List Value} {d : Value} {a0 : Array Value} {n : Nat} (W : Wr h h' w sl v) (A : Arv Z h w k ty z vs d) (q : ty ≠ .byte) (wi : (Cond.instantiable "java/lang/String" n).before a0 Z = true) (F : OwnStr Z h a bs) : OwnStr Z h' a bs := by
  obtain ⟨t, k', h1, h2, h3, h4, h5⟩ := F
  have n1 : a ≠ w := Exa.neArv h1 A wi
  have n2 : t ≠ w := Ne.symm (own_arv_ne A h4 q)
  exact ⟨t, k', h1.wr W, h2.other W (Or.inl n1), h3.other W (Or.inl n1), h4.other W n2, h5⟩
theorem OwnStr.wrE {Z : State} {h h' : Heap} {a w : Addr} {bs : List Int32} {sl : Nat} {v : Value} {C : String} {a0 : Array Value} {n : Nat} (W : Wr h h' w sl v) (E : Exa Z h w C) (q : C ≠ "java/lang/String") (wi : (Cond.instantiable C n).before a0 Z = true) (F : OwnStr Z h a bs) : OwnStr Z h' a bs := by
  obtain ⟨t, k', h1, h2, h3, h4, h5⟩ := F
  have n1 : a ≠ w := Exa.ne h1 E (Ne.symm q)
  have n2 : t ≠ w := own_exaarv h4 E wi
  exact ⟨t, k', h1.wr W, h2.other W (Or.inl n1), h3.other W (Or.inl n1), h4.other W n2, h5⟩
theorem OwnStr.keepE {Z : State} {h h' : Heap} {a w : Addr} {bs : List Int32} {C : String} {a0 : Array Value} {n : Nat} (K : Keep h h' [w]) (E : Exa Z h w C) (q : C ≠ "java/lang/String") (wi : (Cond.instantiable C n).before a0 Z = true) (F : OwnStr Z h a bs) : OwnStr Z h' a bs := by
  obtain ⟨t, k', h1, h2, h3, h4, h5⟩ := F
  have n1 : a ≠ w := Exa.ne h1 E (Ne.symm q)
  have n2 : t ≠ w := own_exaarv h4 E wi
  exact ⟨t, k', h1.keep K, h2.keep K (ninS n1 nin0), h3.keep K (ninS n1 nin0), h4.keep K (ninS n2 nin0), h5⟩
theorem own_i32 {n : Nat} (h : n < 2 ^ 31) : (Int32.ofNat n).toInt = n := Int32.toInt_ofNat_of_lt h
theorem own_nn {n : Nat} (h : n < 2 ^ 31) : ¬ Int32.ofNat n < 0 := by
  rw [Int32.lt_iff_toInt_lt, own_i32 h]
  have z : (0 : Int32).toInt = 0 := rfl
  omega
theorem own_clamp {n : Nat} (h : n < 2 ^ 31) : (Int32.ofNat n).toNatClampNeg = n := by
  have := nat_of (own_nn h)
  rw [own_i32 h] at this
  omega
theorem own_lti {i n : Nat} (h : n < 2 ^ 31) (hi : i < n) : Int32.ofNat i < Int32.ofNat n := by
  rw [Int32.lt_iff_toInt_lt, own_i32 h, own_i32 (Nat.lt_trans hi h)]
  omega
theorem own_eqi {i n : Nat} (hi : i < 2 ^ 31) (h : n < 2 ^ 31) (e : Int32.ofNat i = Int32.ofNat n) : i = n := by
  have := congrArg Int32.toInt e
  rw [own_i32 h, own_i32 hi] at this
  omega
theorem own_suci (i : Nat) : Int32.ofNat i + (1 : Int32) = Int32.ofNat (i + 1) := (Int32.ofNat_add i 1).symm
theorem own_mapget (bs : List Int32) (i : Nat) (hi : i < 2 ^ 31) : (bs.map Value.int).getD (Int32.ofNat i).toNatClampNeg (.int 0) = .int (bs.getD i 0) := by
  rw [own_clamp hi]
  simp only [List.getD_eq_getElem?_getD, List.getElem?_map]
  cases bs[i]? <;> rfl
theorem own_exteq {bs ds : List Int32} (hl : bs.length = ds.length) (h : ∀ j, j < bs.length → bs.getD j 0 = ds.getD j 0) : bs = ds := by
  apply List.ext_getElem hl
  intro i h1 h2
  have := h i h1
  simpa [List.getD_eq_getElem?_getD, h1, h2] using this
theorem rnn_d0 : decode jdk_31_method_11_code 0 = .ok (.aload_n 0, 1) := by decide +kernel
theorem rnn_d1 : decode jdk_31_method_11_code 1 = .ok (.ifnonnull 12, 3) := by decide +kernel
theorem rnn_d13 : decode jdk_31_method_11_code 13 = .ok (.aload_n 0, 1) := by decide +kernel
theorem rnn_d14 : decode jdk_31_method_11_code 14 = .ok (.areturn, 1) := by decide +kernel
theorem rnn_pn : plainName "java/util/Objects" = true := by first | (simp [plainName, overriddenIn]; done) | decide +kernel
theorem rnn_ef (m : MethodId) (x0 : Addr) (x1 : Addr) : entryFrame m #[(.ref x0), (.ref x1)] 2 = mkF m 0 #[.val (.ref x0), .val (.ref x1)] [] := by first | (simp [entryFrame, mkF, argsToLocals, Value.category]; done) | rfl
set_option maxRecDepth 65536 in
set_option maxHeartbeats 40000000 in
theorem rm_rnn (l : Launch) (Z : State) (a0 : Array Value) (hw : ∀ d ∈ tables_1, d.before a0 Z = true) (ws : List Jvm.Cond) (a1 : Addr) (a2 : Addr) (h0 : Heap) (n0 : Nat) (Z0 : n0 ≤ h0.size)  :
    MetFree l (⟨"java/util/Objects", "requireNonNull", "(Ljava/lang/Object;Ljava/lang/String;)Ljava/lang/Object;"⟩ : MethodName) (head1 (Jvm.Cond.code (⟨"java/util/Objects", "requireNonNull", "(Ljava/lang/Object;Ljava/lang/String;)Ljava/lang/Object;"⟩ : MethodName) jdk_31_method_11_code 2 (some (.object "java/lang/Object")) :: ws) ({ frames := 0, cells := 0, slots := 0, locals := 0 } : Room)) (fun a U => a = #[(.ref a1), (.ref a2)] ∧ Z.Warmed39 U.vm ∧ U.heap = h0) (fun _ _ _ _ _ => True) (fun _ U o U' => OwnEnd U (fun v h L => v = some (.ref a1) ∧ Fr n0 L ∧ h = h0) ({ frames := 0, cells := 0, slots := 0, locals := 0 } : Room).cells ({ frames := 0, cells := 0, slots := 0, locals := 0 } : Room).slots o U') := by
  refine MetFree.of_bodySF (plainFor_of_name rnn_pn) hisR ?_
  intro p e s m args below meth c s₁ Bd hml0 hP hK
  obtain ⟨rfl, hZ, hh⟩ := hP
  have hx := Bd.exec
  have hby := Bd.bytes
  have hml : c.maxLocals = 2 := hml0
  have hown : s.vm.findClass "java/util/Objects" = some m.cls := findClass_of_methodNamed Bd.named
  have hnm := (name_of_methodNamed Bd.named Bd.method).1
  have X0 : Stand p l e ({ frames := 0, cells := 0, slots := 0, locals := 0 } : Room) s m #[(.ref a1), (.ref a2)] below meth c s₁ [] 0 0 := Stand.of_body Bd
  have e0 : s₁.heap = h0 := by rw [← hh, Bd.state]; rfl
  have N0 := Fr.nil n0
  have KP0 := Keep.refl h0 []
  refine own_go (Q := (OwnEnd s (fun v h L => v = some (.ref a1) ∧ Fr n0 L ∧ h = h0) ({ frames := 0, cells := 0, slots := 0, locals := 0 } : Room).cells ({ frames := 0, cells := 0, slots := 0, locals := 0 } : Room).slots)) ?_
  refine own_back (fun t k => castTop (rnn_ef m a1 a2) k) ?_
  show OwnGo p e below (s₁.setTop (mkF m 0 #[.val (.ref a1), .val (.ref a2)] [])) _
  refine own_back (fun t k => XS.aloadN X0.here hx rfl (hb hby rnn_d0) rfl rfl k) ?_
  show OwnGo p e below (s₁.setTop (mkF m 1 #[.val (.ref a1), .val (.ref a2)] [(.ref a1)])) _
  refine own_back (fun t k => XS.ifnonnullYes X0.here hx rfl (pc0 := 1) (pc' := 13) rfl (hb hby rnn_d1) rfl (by decide) (by decide) k) ?_
  show OwnGo p e below (s₁.setTop (mkF m 13 #[.val (.ref a1), .val (.ref a2)] [])) _
  refine own_back (fun t k => XS.aloadN X0.here hx rfl (hb hby rnn_d13) rfl rfl k) ?_
  show OwnGo p e below (s₁.setTop (mkF m 14 #[.val (.ref a1), .val (.ref a2)] [(.ref a1)])) _
  refine own_retA X0 hx Bd.notSynchronized Bd.returns rfl rfl (hb hby rnn_d14) e0 (Nat.le_of_ble_eq_true rfl) (Nat.le_of_ble_eq_true rfl) ?_
  exact ⟨rfl, N0, rfl⟩
theorem cod_d0 : decode jdk_42_method_152_code 0 = .ok (.getstatic 38, 3) := by decide +kernel
theorem cod_d3 : decode jdk_42_method_152_code 3 = .ok (.ifCond .eq 10, 3) := by decide +kernel
theorem cod_d6 : decode jdk_42_method_152_code 6 = .ok (.aload_n 0, 1) := by decide +kernel
theorem cod_d7 : decode jdk_42_method_152_code 7 = .ok (.getfield 15, 3) := by decide +kernel
theorem cod_d10 : decode jdk_42_method_152_code 10 = .ok (.goto 4, 3) := by decide +kernel
theorem cod_d14 : decode jdk_42_method_152_code 14 = .ok (.ireturn, 1) := by decide +kernel
theorem cod_pn : plainName "java/lang/String" = true := by first | (simp [plainName, overriddenIn]; done) | decide +kernel
theorem cod_ef (m : MethodId) (x0 : Addr) : entryFrame m #[(.ref x0)] 1 = mkF m 0 #[.val (.ref x0)] [] := by first | (simp [entryFrame, mkF, argsToLocals, Value.category]; done) | rfl
set_option maxRecDepth 65536 in
set_option maxHeartbeats 40000000 in
theorem rm_cod (l : Launch) (Z : State) (a0 : Array Value) (hw : ∀ d ∈ tables_1, d.before a0 Z = true) (ws : List Jvm.Cond) (a1 : Addr) (cz : Int32) (h0 : Heap) (n0 : Nat) (Z0 : n0 ≤ h0.size) (OL : Old Z n0 h0) (F1 : Fld Z h0 a1 "java/lang/String" "coder" "B" (.int 0)) (SC : Sta Z Z.heap "java/lang/String" "COMPACT_STRINGS" "Z" (.int cz)) (hcz : ¬ cz = 0) :
    MetFree l (⟨"java/lang/String", "coder", "()B"⟩ : MethodName) (head1 (Jvm.Cond.code (⟨"java/lang/String", "coder", "()B"⟩ : MethodName) jdk_42_method_152_code 1 (some .byte) :: ws) ({ frames := 0, cells := 0, slots := 0, locals := 0 } : Room)) (fun a U => a = #[(.ref a1)] ∧ Z.Warmed39 U.vm ∧ U.heap = h0) (fun _ _ _ _ _ => True) (fun _ U o U' => OwnEnd U (fun v h L => v = some (.int 0) ∧ Fr n0 L ∧ h = h0) ({ frames := 0, cells := 0, slots := 0, locals := 0 } : Room).cells ({ frames := 0, cells := 0, slots := 0, locals := 0 } : Room).slots o U') := by
  refine MetFree.of_bodySF (plainFor_of_name cod_pn) hisR ?_
  intro p e s m args below meth c s₁ Bd hml0 hP hK
  obtain ⟨rfl, hZ, hh⟩ := hP
  have hx := Bd.exec
  have hby := Bd.bytes
  have hml : c.maxLocals = 1 := hml0
  have hown : s.vm.findClass "java/lang/String" = some m.cls := findClass_of_methodNamed Bd.named
  have hnm := (name_of_methodNamed Bd.named Bd.method).1
  have X0 : Stand p l e ({ frames := 0, cells := 0, slots := 0, locals := 0 } : Room) s m #[(.ref a1)] below meth c s₁ [] 0 0 := Stand.of_body Bd
  have e0 : s₁.heap = h0 := by rw [← hh, Bd.state]; rfl
  have N0 := Fr.nil n0
  have KP0 := Keep.refl h0 []
  refine own_go (Q := (OwnEnd s (fun v h L => v = some (.int 0) ∧ Fr n0 L ∧ h = h0) ({ frames := 0, cells := 0, slots := 0, locals := 0 } : Room).cells ({ frames := 0, cells := 0, slots := 0, locals := 0 } : Room).slots)) ?_
  refine own_back (fun t k => castTop (cod_ef m a1) k) ?_
  show OwnGo p e below (s₁.setTop (mkF m 0 #[.val (.ref a1)] [])) _
  obtain ⟨T101, X101, e101, st101⟩ := getS2 X0 hx hZ hown (host := "") (Or.inl (hw _ (List.mem_of_getElem? (i := 52) rfl))) Via.refl e0 (SC.ext OL.2) (g := (mkF m 0 #[.val (.ref a1)] [])) rfl (hb hby cod_d0)
  refine own_back st101 ?_
  show OwnGo p e below (T101.setTop (mkF m 3 #[.val (.ref a1)] [(.int cz)])) _
  refine own_back (fun t k => XS.ifNo X101.here hx rfl (hb hby cod_d3) rfl (Jvm.Free.XT.i0_eq_f hcz) k) ?_
  show OwnGo p e below (T101.setTop (mkF m 6 #[.val (.ref a1)] [])) _
  refine own_back (fun t k => XS.aloadN X101.here hx rfl (hb hby cod_d6) rfl rfl k) ?_
  show OwnGo p e below (T101.setTop (mkF m 7 #[.val (.ref a1)] [(.ref a1)])) _
  obtain ⟨T102, X102, e102, st102⟩ := getF X101 hx hZ hown (host := "") (Or.inl (hw _ (List.mem_of_getElem? (i := 53) rfl))) Via.refl e101 F1 (g := (mkF m 7 #[.val (.ref a1)] [(.ref a1)])) rfl rfl (hb hby cod_d7)
  refine own_back st102 ?_
  show OwnGo p e below (T102.setTop (mkF m 10 #[.val (.ref a1)] [(.int (0 : Int32))])) _
  refine own_back (fun t k => XS.goto X102.here hx rfl (pc0 := 10) (pc' := 14) rfl (hb hby cod_d10) (by decide) (by decide) k) ?_
  show OwnGo p e below (T102.setTop (mkF m 14 #[.val (.ref a1)] [(.int (0 : Int32))])) _
  refine own_retN X102 hx Bd.notSynchronized (t := .byte) (z := (0 : Int32)) Bd.returns (by simp) rfl (hb hby cod_d14) e102 (Nat.le_of_ble_eq_true rfl) (Nat.le_of_ble_eq_true rfl) ?_
  exact ⟨rfl, N0, rfl⟩
theorem lat_d0 : decode jdk_42_method_154_code 0 = .ok (.getstatic 38, 3) := by decide +kernel
theorem lat_d3 : decode jdk_42_method_154_code 3 = .ok (.ifCond .eq 14, 3) := by decide +kernel
theorem lat_d6 : decode jdk_42_method_154_code 6 = .ok (.aload_n 0, 1) := by decide +kernel
theorem lat_d7 : decode jdk_42_method_154_code 7 = .ok (.getfield 15, 3) := by decide +kernel
theorem lat_d10 : decode jdk_42_method_154_code 10 = .ok (.ifCond .ne 7, 3) := by decide +kernel
theorem lat_d13 : decode jdk_42_method_154_code 13 = .ok (.iconst 1, 1) := by decide +kernel
theorem lat_d14 : decode jdk_42_method_154_code 14 = .ok (.goto 4, 3) := by decide +kernel
theorem lat_d18 : decode jdk_42_method_154_code 18 = .ok (.ireturn, 1) := by decide +kernel
theorem lat_pn : plainName "java/lang/String" = true := by first | (simp [plainName, overriddenIn]; done) | decide +kernel
theorem lat_ef (m : MethodId) (x0 : Addr) : entryFrame m #[(.ref x0)] 1 = mkF m 0 #[.val (.ref x0)] [] := by first | (simp [entryFrame, mkF, argsToLocals, Value.category]; done) | rfl
set_option maxRecDepth 65536 in
set_option maxHeartbeats 40000000 in
theorem rm_lat (l : Launch) (Z : State) (a0 : Array Value) (hw : ∀ d ∈ tables_1, d.before a0 Z = true) (ws : List Jvm.Cond) (a1 : Addr) (cz : Int32) (h0 : Heap) (n0 : Nat) (Z0 : n0 ≤ h0.size) (OL : Old Z n0 h0) (F1 : Fld Z h0 a1 "java/lang/String" "coder" "B" (.int 0)) (SC : Sta Z Z.heap "java/lang/String" "COMPACT_STRINGS" "Z" (.int cz)) (hcz : ¬ cz = 0) :
    MetFree l (⟨"java/lang/String", "isLatin1", "()Z"⟩ : MethodName) (head1 (Jvm.Cond.code (⟨"java/lang/String", "isLatin1", "()Z"⟩ : MethodName) jdk_42_method_154_code 1 (some .boolean) :: ws) ({ frames := 0, cells := 0, slots := 0, locals := 0 } : Room)) (fun a U => a = #[(.ref a1)] ∧ Z.Warmed39 U.vm ∧ U.heap = h0) (fun _ _ _ _ _ => True) (fun _ U o U' => OwnEnd U (fun v h L => v = some (.int 1) ∧ Fr n0 L ∧ h = h0) ({ frames := 0, cells := 0, slots := 0, locals := 0 } : Room).cells ({ frames := 0, cells := 0, slots := 0, locals := 0 } : Room).slots o U') := by
  refine MetFree.of_bodySF (plainFor_of_name lat_pn) hisR ?_
  intro p e s m args below meth c s₁ Bd hml0 hP hK
  obtain ⟨rfl, hZ, hh⟩ := hP
  have hx := Bd.exec
  have hby := Bd.bytes
  have hml : c.maxLocals = 1 := hml0
  have hown : s.vm.findClass "java/lang/String" = some m.cls := findClass_of_methodNamed Bd.named
  have hnm := (name_of_methodNamed Bd.named Bd.method).1
  have X0 : Stand p l e ({ frames := 0, cells := 0, slots := 0, locals := 0 } : Room) s m #[(.ref a1)] below meth c s₁ [] 0 0 := Stand.of_body Bd
  have e0 : s₁.heap = h0 := by rw [← hh, Bd.state]; rfl
  have N0 := Fr.nil n0
  have KP0 := Keep.refl h0 []
  refine own_go (Q := (OwnEnd s (fun v h L => v = some (.int 1) ∧ Fr n0 L ∧ h = h0) ({ frames := 0, cells := 0, slots := 0, locals := 0 } : Room).cells ({ frames := 0, cells := 0, slots := 0, locals := 0 } : Room).slots)) ?_
  refine own_back (fun t k => castTop (lat_ef m a1) k) ?_
  show OwnGo p e below (s₁.setTop (mkF m 0 #[.val (.ref a1)] [])) _
  obtain ⟨T103, X103, e103, st103⟩ := getS2 X0 hx hZ hown (host := "") (Or.inl (hw _ (List.mem_of_getElem? (i := 52) rfl))) Via.refl e0 (SC.ext OL.2) (g := (mkF m 0 #[.val (.ref a1)] [])) rfl (hb hby lat_d0)
  refine own_back st103 ?_
  show OwnGo p e below (T103.setTop (mkF m 3 #[.val (.ref a1)] [(.int cz)])) _
  refine own_back (fun t k => XS.ifNo X103.here hx rfl (hb hby lat_d3) rfl (Jvm.Free.XT.i0_eq_f hcz) k) ?_
  show OwnGo p e below (T103.setTop (mkF m 6 #[.val (.ref a1)] [])) _
  refine own_back (fun t k => XS.aloadN X103.here hx rfl (hb hby lat_d6) rfl rfl k) ?_
  show OwnGo p e below (T103.setTop (mkF m 7 #[.val (.ref a1)] [(.ref a1)])) _
  obtain ⟨T104, X104, e104, st104⟩ := getF X103 hx hZ hown (host := "") (Or.inl (hw _ (List.mem_of_getElem? (i := 53) rfl))) Via.refl e103 F1 (g := (mkF m 7 #[.val (.ref a1)] [(.ref a1)])) rfl rfl (hb hby lat_d7)
  refine own_back st104 ?_
  show OwnGo p e below (T104.setTop (mkF m 10 #[.val (.ref a1)] [(.int (0 : Int32))])) _
  refine own_back (fun t k => XS.ifNo X104.here hx rfl (hb hby lat_d10) rfl (Jvm.Free.XT.i0_ne_f (by decide)) k) ?_
  show OwnGo p e below (T104.setTop (mkF m 13 #[.val (.ref a1)] [])) _
  refine own_back (fun t k => XS.iconst X104.here hx rfl (hb hby lat_d13) k) ?_
  show OwnGo p e below (T104.setTop (mkF m 14 #[.val (.ref a1)] [(.int (1 : Int32))])) _
  refine own_back (fun t k => XS.goto X104.here hx rfl (pc0 := 14) (pc' := 18) rfl (hb hby lat_d14) (by decide) (by decide) k) ?_
  show OwnGo p e below (T104.setTop (mkF m 18 #[.val (.ref a1)] [(.int (1 : Int32))])) _
  refine own_retN X104 hx Bd.notSynchronized (t := .boolean) (z := (1 : Int32)) Bd.returns (by simp) rfl (hb hby lat_d18) e104 (Nat.le_of_ble_eq_true rfl) (Nat.le_of_ble_eq_true rfl) ?_
  exact ⟨rfl, N0, rfl⟩
theorem len_d0 : decode jdk_42_method_54_code 0 = .ok (.aload_n 0, 1) := by decide +kernel
theorem len_d1 : decode jdk_42_method_54_code 1 = .ok (.getfield 9, 3) := by decide +kernel
theorem len_d4 : decode jdk_42_method_54_code 4 = .ok (.arraylength, 1) := by decide +kernel
theorem len_d5 : decode jdk_42_method_54_code 5 = .ok (.aload_n 0, 1) := by decide +kernel
theorem len_d6 : decode jdk_42_method_54_code 6 = .ok (.invokevirtual 335, 3) := by decide +kernel
theorem len_d9 : decode jdk_42_method_54_code 9 = .ok (.ishr, 1) := by decide +kernel
theorem len_d10 : decode jdk_42_method_54_code 10 = .ok (.ireturn, 1) := by decide +kernel
theorem len_pn : plainName "java/lang/String" = true := by first | (simp [plainName, overriddenIn]; done) | decide +kernel
theorem len_pd0 : parseMethodDescriptor "()B" = some ⟨[], some .byte⟩ := by decide +kernel
theorem len_ef (m : MethodId) (x0 : Addr) : entryFrame m #[(.ref x0)] 1 = mkF m 0 #[.val (.ref x0)] [] := by first | (simp [entryFrame, mkF, argsToLocals, Value.category]; done) | rfl
set_option maxRecDepth 65536 in
set_option maxHeartbeats 40000000 in
theorem rm_len (l : Launch) (Z : State) (a0 : Array Value) (hw : ∀ d ∈ tables_1, d.before a0 Z = true) (ws : List Jvm.Cond) (a1 : Addr) (y : Int32) (cz : Int32) (h0 : Heap) (n0 : Nat) (Z0 : n0 ≤ h0.size) (OL : Old Z n0 h0) (B1 : OwnStr Z h0 a1 [y]) (SC : Sta Z Z.heap "java/lang/String" "COMPACT_STRINGS" "Z" (.int cz)) (hcz : ¬ cz = 0) :
    MetFree l (⟨"java/lang/String", "length", "()I"⟩ : MethodName) (head1 (Jvm.Cond.code (⟨"java/lang/String", "length", "()I"⟩ : MethodName) jdk_42_method_54_code 1 (some .int) :: ws) ({ frames := 1, cells := 0, slots := 0, locals := 20 } : Room)) (fun a U => a = #[(.ref a1)] ∧ Z.Warmed39 U.vm ∧ U.heap = h0) (fun _ _ _ _ _ => True) (fun _ U o U' => OwnEnd U (fun v h L => v = some (.int 1) ∧ Fr n0 L ∧ h = h0) ({ frames := 1, cells := 0, slots := 0, locals := 20 } : Room).cells ({ frames := 1, cells := 0, slots := 0, locals := 20 } : Room).slots o U') := by
  refine MetFree.of_bodySF (plainFor_of_name len_pn) hisR ?_
  intro p e s m args below meth c s₁ Bd hml0 hP hK
  obtain ⟨rfl, hZ, hh⟩ := hP
  have hx := Bd.exec
  have hby := Bd.bytes
  have hml : c.maxLocals = 1 := hml0
  have hown : s.vm.findClass "java/lang/String" = some m.cls := findClass_of_methodNamed Bd.named
  have hnm := (name_of_methodNamed Bd.named Bd.method).1
  have X0 : Stand p l e ({ frames := 1, cells := 0, slots := 0, locals := 20 } : Room) s m #[(.ref a1)] below meth c s₁ [] 0 0 := Stand.of_body Bd
  have e0 : s₁.heap = h0 := by rw [← hh, Bd.state]; rfl
  have N0 := Fr.nil n0
  have KP0 := Keep.refl h0 []
  refine own_go (Q := (OwnEnd s (fun v h L => v = some (.int 1) ∧ Fr n0 L ∧ h = h0) ({ frames := 1, cells := 0, slots := 0, locals := 20 } : Room).cells ({ frames := 1, cells := 0, slots := 0, locals := 20 } : Room).slots)) ?_
  refine own_back (fun t k => castTop (len_ef m a1) k) ?_
  show OwnGo p e below (s₁.setTop (mkF m 0 #[.val (.ref a1)] [])) _
  obtain ⟨t1, k1, E1, C1, F1, V1, m1⟩ := B1
  refine own_back (fun t k => XS.aloadN X0.here hx rfl (hb hby len_d0) rfl rfl k) ?_
  show OwnGo p e below (s₁.setTop (mkF m 1 #[.val (.ref a1)] [(.ref a1)])) _
  obtain ⟨T105, X105, e105, st105⟩ := getF X0 hx hZ hown (host := "") (Or.inl (hw _ (List.mem_of_getElem? (i := 46) rfl))) Via.refl e0 F1 (g := (mkF m 1 #[.val (.ref a1)] [(.ref a1)])) rfl rfl (hb hby len_d1)
  refine own_back st105 ?_
  show OwnGo p e below (T105.setTop (mkF m 4 #[.val (.ref a1)] [(.ref t1)])) _
  obtain ⟨c106, A106, q106, S106, M106, H106, U106⟩ := id (show Arv Z h0 t1 k1 .byte (1 : Int32) [.int y] (.int 0) from V1)
  refine own_back (fun t k => X105.arraylength hx (own_hat e105 A106.1) (State.isArrayOf_alike hZ.alike A106.2.1) (g := (mkF m 4 #[.val (.ref a1)] [(.ref t1)])) rfl rfl (hb hby len_d4) t k) ?_
  rw [len_of S106 M106]
  show OwnGo p e below (T105.setTop (mkF m 5 #[.val (.ref a1)] [(.int (1 : Int32))])) _
  refine own_back (fun t k => XS.aloadN X105.here hx rfl (hb hby len_d5) rfl rfl k) ?_
  show OwnGo p e below (T105.setTop (mkF m 6 #[.val (.ref a1)] [(.ref a1), (.int (1 : Int32))])) _
  obtain ⟨cq107, kq107, q107a, q107b, q107c⟩ := isOf hZ e105 E1
  obtain ⟨_, _, ⟨T107, L107, k107, n107⟩, -, X107, ⟨Lc107, hQ107, l107, y107, z107⟩, st107⟩ := X105.virtualBack hx (y := (⟨"java/lang/String", "coder", "()B"⟩ : MethodName)) (z := (⟨"java/lang/String", "coder", "()B"⟩ : MethodName)) hown (mvT hZ (hw _ (List.mem_of_getElem? (i := 47) rfl))) (mvT hZ (hw _ (List.mem_of_getElem? (i := 48) rfl))) (notFace_of_selects (args := #[]) (mvT hZ (hw _ (List.mem_of_getElem? (i := 50) rfl)))) (mvT hZ (hw _ (List.mem_of_getElem? (i := 50) rfl))) (mvT hZ (hw _ (List.mem_of_getElem? (i := 49) rfl))) (by decide) (own_backN (W := 1) (rm_cod l Z a0 hw [] a1 cz h0 n0 Z0 OL C1 SC hcz) hZ (hw _ (List.mem_of_getElem? (i := 51) rfl)) (hw _ (List.mem_of_getElem? (i := 8) rfl)) (by decide) (by decide)) q107a q107c (g := (mkF m 6 #[.val (.ref a1)] [(.ref a1), (.int (1 : Int32))])) rfl (by rw [hml]; rfl) (Steps.refl _) (argsL := []) (rest := [(.int (1 : Int32))]) (lenOf len_pd0 rfl) rfl (by show 2 * 0 + _ ≤ _; exact Nat.le_of_eq rfl) (hb hby len_d6) (fun _ _ => ⟨rfl, e105, Nat.le_of_ble_eq_true rfl, Nat.le_of_ble_eq_true rfl⟩)
  dsimp only [Pt.U, Pt.locs, Pt.cells, Pt.slots] at X107 l107 y107 z107 st107 hQ107
  subst l107 y107 z107
  obtain ⟨rfl, N107q, hh107⟩ := hQ107
  refine own_seq st107 ?_
  have N107 := Fr.app N0 N107q
  show OwnGo p e below (T107.setTop (mkF m 9 #[.val (.ref a1)] [(.int (0 : Int32)), (.int (1 : Int32))])) _
  refine own_back (fun t k => XS.ishr X107.here hx rfl (hb hby len_d9) rfl k) ?_
  show OwnGo p e below (T107.setTop (mkF m 10 #[.val (.ref a1)] [(.int ((1 : Int32) >>> ((0 : Int32) &&& 31)))])) _
  refine own_retI X107 hx Bd.notSynchronized Bd.returns (hb hby len_d10) hh107 (Nat.le_of_ble_eq_true rfl) (Nat.le_of_ble_eq_true rfl) ?_
  exact ⟨rfl, N107, rfl⟩
theorem ci3_d0 : decode jdk_41_method_11_code 0 = .ok (.iload_n 0, 1) := by decide +kernel
theorem ci3_d1 : decode jdk_41_method_11_code 1 = .ok (.ifCond .lt 8, 3) := by decide +kernel
theorem ci3_d4 : decode jdk_41_method_11_code 4 = .ok (.iload_n 0, 1) := by decide +kernel
theorem ci3_d5 : decode jdk_41_method_11_code 5 = .ok (.iload_n 1, 1) := by decide +kernel
theorem ci3_d6 : decode jdk_41_method_11_code 6 = .ok (.if_icmp .lt 10, 3) := by decide +kernel
theorem ci3_d16 : decode jdk_41_method_11_code 16 = .ok (.iload_n 0, 1) := by decide +kernel
theorem ci3_d17 : decode jdk_41_method_11_code 17 = .ok (.ireturn, 1) := by decide +kernel
theorem ci3_pn : plainName "jdk/internal/util/Preconditions" = true := by first | (simp [plainName, overriddenIn]; done) | decide +kernel
theorem ci3_ef (m : MethodId) (x0 : Int32) (x1 : Int32) (x2 : Value) (hx2 : x2.isRef = true) : entryFrame m #[(.int x0), (.int x1), x2] 3 = mkF m 0 #[.val (.int x0), .val (.int x1), .val x2] [] := by cases x2 <;> first | (exact absurd hx2 Bool.false_ne_true) | (simp [entryFrame, mkF, argsToLocals, Value.category]; done) | rfl
set_option maxRecDepth 65536 in
set_option maxHeartbeats 40000000 in
theorem rm_ci3 (l : Launch) (Z : State) (a0 : Array Value) (hw : ∀ d ∈ tables_1, d.before a0 Z = true) (ws : List Jvm.Cond) (fm : Value) (hfm : fm.isRef = true) (h0 : Heap) (n0 : Nat) (Z0 : n0 ≤ h0.size)  :
    MetFree l (⟨"jdk/internal/util/Preconditions", "checkIndex", "(IILjava/util/function/BiFunction;)I"⟩ : MethodName) (head1 (Jvm.Cond.code (⟨"jdk/internal/util/Preconditions", "checkIndex", "(IILjava/util/function/BiFunction;)I"⟩ : MethodName) jdk_41_method_11_code 3 (some .int) :: ws) ({ frames := 0, cells := 0, slots := 0, locals := 0 } : Room)) (fun a U => a = #[(.int (0 : Int32)), (.int (1 : Int32)), fm] ∧ Z.Warmed39 U.vm ∧ U.heap = h0) (fun _ _ _ _ _ => True) (fun _ U o U' => OwnEnd U (fun v h L => v = some (.int 0) ∧ Fr n0 L ∧ h = h0) ({ frames := 0, cells := 0, slots := 0, locals := 0 } : Room).cells ({ frames := 0, cells := 0, slots := 0, locals := 0 } : Room).slots o U') := by
  refine MetFree.of_bodySF (plainFor_of_name ci3_pn) hisR ?_
  intro p e s m args below meth c s₁ Bd hml0 hP hK
  obtain ⟨rfl, hZ, hh⟩ := hP
  have hx := Bd.exec
  have hby := Bd.bytes
  have hml : c.maxLocals = 3 := hml0
  have hown : s.vm.findClass "jdk/internal/util/Preconditions" = some m.cls := findClass_of_methodNamed Bd.named
  have hnm := (name_of_methodNamed Bd.named Bd.method).1
  have X0 : Stand p l e ({ frames := 0, cells := 0, slots := 0, locals := 0 } : Room) s m #[(.int (0 : Int32)), (.int (1 : Int32)), fm] below meth c s₁ [] 0 0 := Stand.of_body Bd
  have e0 : s₁.heap = h0 := by rw [← hh, Bd.state]; rfl
  have N0 := Fr.nil n0
  have KP0 := Keep.refl h0 []
  refine own_go (Q := (OwnEnd s (fun v h L => v = some (.int 0) ∧ Fr n0 L ∧ h = h0) ({ frames := 0, cells := 0, slots := 0, locals := 0 } : Room).cells ({ frames := 0, cells := 0, slots := 0, locals := 0 } : Room).slots)) ?_
  refine own_back (fun t k => castTop (ci3_ef m (0 : Int32) (1 : Int32) fm hfm) k) ?_
  show OwnGo p e below (s₁.setTop (mkF m 0 #[.val (.int (0 : Int32)), .val (.int (1 : Int32)), .val fm] [])) _
  refine own_back (fun t k => XS.iloadN X0.here hx rfl (hb hby ci3_d0) rfl k) ?_
  show OwnGo p e below (s₁.setTop (mkF m 1 #[.val (.int (0 : Int32)), .val (.int (1 : Int32)), .val fm] [(.int (0 : Int32))])) _
  refine own_back (fun t k => XS.ifNo X0.here hx rfl (hb hby ci3_d1) rfl (Jvm.Free.XT.i0_lt_f (by decide)) k) ?_
  show OwnGo p e below (s₁.setTop (mkF m 4 #[.val (.int (0 : Int32)), .val (.int (1 : Int32)), .val fm] [])) _
  refine own_back (fun t k => XS.iloadN X0.here hx rfl (hb hby ci3_d4) rfl k) ?_
  show OwnGo p e below (s₁.setTop (mkF m 5 #[.val (.int (0 : Int32)), .val (.int (1 : Int32)), .val fm] [(.int (0 : Int32))])) _
  refine own_back (fun t k => XS.iloadN X0.here hx rfl (hb hby ci3_d5) rfl k) ?_
  show OwnGo p e below (s₁.setTop (mkF m 6 #[.val (.int (0 : Int32)), .val (.int (1 : Int32)), .val fm] [(.int (1 : Int32)), (.int (0 : Int32))])) _
  refine own_back (fun t k => XS.icmpYes X0.here hx rfl (pc0 := 6) (pc' := 16) rfl (hb hby ci3_d6) rfl (Jvm.Free.XT.ii_lt_t (by decide)) (by decide) (by decide) k) ?_
  show OwnGo p e below (s₁.setTop (mkF m 16 #[.val (.int (0 : Int32)), .val (.int (1 : Int32)), .val fm] [])) _
  refine own_back (fun t k => XS.iloadN X0.here hx rfl (hb hby ci3_d16) rfl k) ?_
  show OwnGo p e below (s₁.setTop (mkF m 17 #[.val (.int (0 : Int32)), .val (.int (1 : Int32)), .val fm] [(.int (0 : Int32))])) _
  refine own_retI X0 hx Bd.notSynchronized Bd.returns (hb hby ci3_d17) e0 (Nat.le_of_ble_eq_true rfl) (Nat.le_of_ble_eq_true rfl) ?_
  exact ⟨rfl, N0, rfl⟩
theorem ci2_d0 : decode jdk_42_method_155_code 0 = .ok (.iload_n 0, 1) := by decide +kernel
theorem ci2_d1 : decode jdk_42_method_155_code 1 = .ok (.iload_n 1, 1) := by decide +kernel
theorem ci2_d2 : decode jdk_42_method_155_code 2 = .ok (.getstatic 1053, 3) := by decide +kernel
theorem ci2_d5 : decode jdk_42_method_155_code 5 = .ok (.invokestatic 1059, 3) := by decide +kernel
theorem ci2_d8 : decode jdk_42_method_155_code 8 = .ok (.pop, 1) := by decide +kernel
theorem ci2_d9 : decode jdk_42_method_155_code 9 = .ok (.return_, 1) := by decide +kernel
theorem ci2_pn : plainName "java/lang/String" = true := by first | (simp [plainName, overriddenIn]; done) | decide +kernel
theorem ci2_pd0 : parseMethodDescriptor "(IILjava/util/function/BiFunction;)I" = some ⟨[.int, .int, (.object "java/util/function/BiFunction")], some .int⟩ := by decide +kernel
theorem ci2_ef (m : MethodId) (x0 : Int32) (x1 : Int32) : entryFrame m #[(.int x0), (.int x1)] 2 = mkF m 0 #[.val (.int x0), .val (.int x1)] [] := by first | (simp [entryFrame, mkF, argsToLocals, Value.category]; done) | rfl
set_option maxRecDepth 65536 in
set_option maxHeartbeats 40000000 in
theorem rm_ci2 (l : Launch) (Z : State) (a0 : Array Value) (hw : ∀ d ∈ tables_1, d.before a0 Z = true) (ws : List Jvm.Cond) (cz : Int32) (fm : Value) (h0 : Heap) (n0 : Nat) (Z0 : n0 ≤ h0.size) (OL : Old Z n0 h0) (SC : Sta Z Z.heap "java/lang/String" "COMPACT_STRINGS" "Z" (.int cz)) (hcz : ¬ cz = 0) (SO : Sta Z Z.heap "jdk/internal/util/Preconditions" "SIOOBE_FORMATTER" "Ljava/util/function/BiFunction;" fm) (hfm : fm.isRef = true) :
    MetFree l (⟨"java/lang/String", "checkIndex", "(II)V"⟩ : MethodName) (head1 (Jvm.Cond.code (⟨"java/lang/String", "checkIndex", "(II)V"⟩ : MethodName) jdk_42_method_155_code 2 none :: ws) ({ frames := 1, cells := 0, slots := 0, locals := 20 } : Room)) (fun a U => a = #[(.int (0 : Int32)), (.int (1 : Int32))] ∧ Z.Warmed39 U.vm ∧ U.heap = h0) (fun _ _ _ _ _ => True) (fun _ U o U' => OwnEnd U (fun v h L => v = none ∧ Fr n0 L ∧ h = h0) ({ frames := 1, cells := 0, slots := 0, locals := 20 } : Room).cells ({ frames := 1, cells := 0, slots := 0, locals := 20 } : Room).slots o U') := by
  refine MetFree.of_bodySF (plainFor_of_name ci2_pn) hisR ?_
  intro p e s m args below meth c s₁ Bd hml0 hP hK
  obtain ⟨rfl, hZ, hh⟩ := hP
  have hx := Bd.exec
  have hby := Bd.bytes
  have hml : c.maxLocals = 2 := hml0
  have hown : s.vm.findClass "java/lang/String" = some m.cls := findClass_of_methodNamed Bd.named
  have hnm := (name_of_methodNamed Bd.named Bd.method).1
  have X0 : Stand p l e ({ frames := 1, cells := 0, slots := 0, locals := 20 } : Room) s m #[(.int (0 : Int32)), (.int (1 : Int32))] below meth c s₁ [] 0 0 := Stand.of_body Bd
  have e0 : s₁.heap = h0 := by rw [← hh, Bd.state]; rfl
  have N0 := Fr.nil n0
  have KP0 := Keep.refl h0 []
  refine own_go (Q := (OwnEnd s (fun v h L => v = none ∧ Fr n0 L ∧ h = h0) ({ frames := 1, cells := 0, slots := 0, locals := 20 } : Room).cells ({ frames := 1, cells := 0, slots := 0, locals := 20 } : Room).slots)) ?_
  refine own_back (fun t k => castTop (ci2_ef m (0 : Int32) (1 : Int32)) k) ?_
  show OwnGo p e below (s₁.setTop (mkF m 0 #[.val (.int (0 : Int32)), .val (.int (1 : Int32))] [])) _
  refine own_back (fun t k => XS.iloadN X0.here hx rfl (hb hby ci2_d0) rfl k) ?_
  show OwnGo p e below (s₁.setTop (mkF m 1 #[.val (.int (0 : Int32)), .val (.int (1 : Int32))] [(.int (0 : Int32))])) _
  refine own_back (fun t k => XS.iloadN X0.here hx rfl (hb hby ci2_d1) rfl k) ?_
  show OwnGo p e below (s₁.setTop (mkF m 2 #[.val (.int (0 : Int32)), .val (.int (1 : Int32))] [(.int (1 : Int32)), (.int (0 : Int32))])) _
  obtain ⟨T108, X108, e108, st108⟩ := getS2 X0 hx hZ hown (host := "") (Or.inl (hw _ (List.mem_of_getElem? (i := 67) rfl))) Via.refl e0 (SO.ext OL.2) (g := (mkF m 2 #[.val (.int (0 : Int32)), .val (.int (1 : Int32))] [(.int (1 : Int32)), (.int (0 : Int32))])) rfl (hb hby ci2_d2)
  refine own_back st108 ?_
  show OwnGo p e below (T108.setTop (mkF m 5 #[.val (.int (0 : Int32)), .val (.int (1 : Int32))] [fm, (.int (1 : Int32)), (.int (0 : Int32))])) _
  obtain ⟨_, _, ⟨T109, L109, k109, n109⟩, -, X109, ⟨Lc109, hQ109, l109, y109, z109⟩, st109⟩ := Jvm.LawKit.callS X108 hx (y := (⟨"jdk/internal/util/Preconditions", "checkIndex", "(IILjava/util/function/BiFunction;)I"⟩ : MethodName)) hown (mvT hZ (hw _ (List.mem_of_getElem? (i := 69) rfl))) (mvT hZ (hw _ (List.mem_of_getElem? (i := 70) rfl))) (mvT hZ (hw _ (List.mem_of_getElem? (i := 68) rfl))) (mvT hZ (hw _ (List.mem_of_getElem? (i := 71) rfl))) (by decide) (own_backN (W := 0) (rm_ci3 l Z a0 hw [] fm hfm h0 n0 Z0) hZ (hw _ (List.mem_of_getElem? (i := 71) rfl)) (hw _ (List.mem_of_getElem? (i := 68) rfl)) (by decide) (by decide)) (g := (mkF m 5 #[.val (.int (0 : Int32)), .val (.int (1 : Int32))] [fm, (.int (1 : Int32)), (.int (0 : Int32))])) rfl (by rw [hml]; rfl) (argsL := [(.int (0 : Int32)), (.int (1 : Int32)), fm]) (rest := []) (lenOf ci2_pd0 rfl) rfl (by show 2 * 0 + _ ≤ _; exact Nat.le_of_eq rfl) (hb hby ci2_d5) (fun _ _ => ⟨rfl, e108, Nat.le_of_ble_eq_true rfl, Nat.le_of_ble_eq_true rfl⟩)
  dsimp only [Pt.U, Pt.locs, Pt.cells, Pt.slots] at X109 l109 y109 z109 st109 hQ109
  subst l109 y109 z109
  obtain ⟨rfl, N109q, hh109⟩ := hQ109
  refine own_back st109 ?_
  have N109 := Fr.app N0 N109q
  show OwnGo p e below (T109.setTop (mkF m 8 #[.val (.int (0 : Int32)), .val (.int (1 : Int32))] [(.int (0 : Int32))])) _
  refine own_back (fun t k => XS.pop X109.here hx rfl (hb hby ci2_d8) rfl rfl k) ?_
  show OwnGo p e below (T109.setTop (mkF m 9 #[.val (.int (0 : Int32)), .val (.int (1 : Int32))] [])) _
  refine own_retV X109 hx Bd.notSynchronized Bd.returns (hb hby ci2_d9) hh109 (Nat.le_of_ble_eq_true rfl) (Nat.le_of_ble_eq_true rfl) ?_
  exact ⟨rfl, N109, rfl⟩
theorem cpa_d0 : decode jdk_42_method_57_code 0 = .ok (.aload_n 0, 1) := by decide +kernel
theorem cpa_d1 : decode jdk_42_method_57_code 1 = .ok (.invokevirtual 492, 3) := by decide +kernel
theorem cpa_d4 : decode jdk_42_method_57_code 4 = .ok (.ifCond .eq 23, 3) := by decide +kernel
theorem cpa_d7 : decode jdk_42_method_57_code 7 = .ok (.iload_n 1, 1) := by decide +kernel
theorem cpa_d8 : decode jdk_42_method_57_code 8 = .ok (.aload_n 0, 1) := by decide +kernel
theorem cpa_d9 : decode jdk_42_method_57_code 9 = .ok (.getfield 9, 3) := by decide +kernel
theorem cpa_d12 : decode jdk_42_method_57_code 12 = .ok (.arraylength, 1) := by decide +kernel
theorem cpa_d13 : decode jdk_42_method_57_code 13 = .ok (.invokestatic 499, 3) := by decide +kernel
theorem cpa_d16 : decode jdk_42_method_57_code 16 = .ok (.aload_n 0, 1) := by decide +kernel
theorem cpa_d17 : decode jdk_42_method_57_code 17 = .ok (.getfield 9, 3) := by decide +kernel
theorem cpa_d20 : decode jdk_42_method_57_code 20 = .ok (.iload_n 1, 1) := by decide +kernel
theorem cpa_d21 : decode jdk_42_method_57_code 21 = .ok (.baload, 1) := by decide +kernel
theorem cpa_d22 : decode jdk_42_method_57_code 22 = .ok (.sipush 255, 3) := by decide +kernel
theorem cpa_d25 : decode jdk_42_method_57_code 25 = .ok (.iand, 1) := by decide +kernel
theorem cpa_d26 : decode jdk_42_method_57_code 26 = .ok (.ireturn, 1) := by decide +kernel
theorem cpa_pn : plainName "java/lang/String" = true := by first | (simp [plainName, overriddenIn]; done) | decide +kernel
theorem cpa_pd0 : parseMethodDescriptor "()Z" = some ⟨[], some .boolean⟩ := by decide +kernel
theorem cpa_pd1 : parseMethodDescriptor "(II)V" = some ⟨[.int, .int], none⟩ := by decide +kernel
theorem cpa_ef (m : MethodId) (x0 : Addr) (x1 : Int32) : entryFrame m #[(.ref x0), (.int x1)] 3 = mkF m 0 #[.val (.ref x0), .val (.int x1), .unset] [] := by first | (simp [entryFrame, mkF, argsToLocals, Value.category]; done) | rfl
set_option maxRecDepth 65536 in
set_option maxHeartbeats 40000000 in
theorem rm_cpa (l : Launch) (Z : State) (a0 : Array Value) (hw : ∀ d ∈ tables_1, d.before a0 Z = true) (ws : List Jvm.Cond) (a1 : Addr) (y : Int32) (cz : Int32) (fm : Value) (h0 : Heap) (n0 : Nat) (Z0 : n0 ≤ h0.size) (OL : Old Z n0 h0) (B1 : OwnStr Z h0 a1 [y]) (SC : Sta Z Z.heap "java/lang/String" "COMPACT_STRINGS" "Z" (.int cz)) (hcz : ¬ cz = 0) (SO : Sta Z Z.heap "jdk/internal/util/Preconditions" "SIOOBE_FORMATTER" "Ljava/util/function/BiFunction;" fm) (hfm : fm.isRef = true) :
    MetFree l (⟨"java/lang/String", "codePointAt", "(I)I"⟩ : MethodName) (head1 (Jvm.Cond.code (⟨"java/lang/String", "codePointAt", "(I)I"⟩ : MethodName) jdk_42_method_57_code 3 (some .int) :: ws) ({ frames := 2, cells := 0, slots := 0, locals := 50 } : Room)) (fun a U => a = #[(.ref a1), (.int (0 : Int32))] ∧ Z.Warmed39 U.vm ∧ U.heap = h0) (fun _ _ _ _ _ => True) (fun _ U o U' => OwnEnd U (fun v h L => v = some (.int (y &&& (255 : Int32))) ∧ Fr n0 L ∧ h = h0) ({ frames := 2, cells := 0, slots := 0, locals := 50 } : Room).cells ({ frames := 2, cells := 0, slots := 0, locals := 50 } : Room).slots o U') := by
  refine MetFree.of_bodySF (plainFor_of_name cpa_pn) hisR ?_
  intro p e s m args below meth c s₁ Bd hml0 hP hK
  obtain ⟨rfl, hZ, hh⟩ := hP
  have hx := Bd.exec
  have hby := Bd.bytes
  have hml : c.maxLocals = 3 := hml0
  have hown : s.vm.findClass "java/lang/String" = some m.cls := findClass_of_methodNamed Bd.named
  have hnm := (name_of_methodNamed Bd.named Bd.method).1
  have X0 : Stand p l e ({ frames := 2, cells := 0, slots := 0, locals := 50 } : Room) s m #[(.ref a1), (.int (0 : Int32))] below meth c s₁ [] 0 0 := Stand.of_body Bd
  have e0 : s₁.heap = h0 := by rw [← hh, Bd.state]; rfl
  have N0 := Fr.nil n0
  have KP0 := Keep.refl h0 []
  refine own_go (Q := (OwnEnd s (fun v h L => v = some (.int (y &&& (255 : Int32))) ∧ Fr n0 L ∧ h = h0) ({ frames := 2, cells := 0, slots := 0, locals := 50 } : Room).cells ({ frames := 2, cells := 0, slots := 0, locals := 50 } : Room).slots)) ?_
  refine own_back (fun t k => castTop (cpa_ef m a1 (0 : Int32)) k) ?_
  show OwnGo p e below (s₁.setTop (mkF m 0 #[.val (.ref a1), .val (.int (0 : Int32)), .unset] [])) _
  obtain ⟨t1, k1, E1, C1, F1, V1, m1⟩ := B1
  refine own_back (fun t k => XS.aloadN X0.here hx rfl (hb hby cpa_d0) rfl rfl k) ?_
  show OwnGo p e below (s₁.setTop (mkF m 1 #[.val (.ref a1), .val (.int (0 : Int32)), .unset] [(.ref a1)])) _
  obtain ⟨cq110, kq110, q110a, q110b, q110c⟩ := isOf hZ e0 E1
  obtain ⟨_, _, ⟨T110, L110, k110, n110⟩, -, X110, ⟨Lc110, hQ110, l110, y110, z110⟩, st110⟩ := X0.virtualBack hx (y := (⟨"java/lang/String", "isLatin1", "()Z"⟩ : MethodName)) (z := (⟨"java/lang/String", "isLatin1", "()Z"⟩ : MethodName)) hown (mvT hZ (hw _ (List.mem_of_getElem? (i := 59) rfl))) (mvT hZ (hw _ (List.mem_of_getElem? (i := 60) rfl))) (notFace_of_selects (args := #[]) (mvT hZ (hw _ (List.mem_of_getElem? (i := 62) rfl)))) (mvT hZ (hw _ (List.mem_of_getElem? (i := 62) rfl))) (mvT hZ (hw _ (List.mem_of_getElem? (i := 61) rfl))) (by decide) (own_backN (W := 0) (rm_lat l Z a0 hw [] a1 cz h0 n0 Z0 OL C1 SC hcz) hZ (hw _ (List.mem_of_getElem? (i := 63) rfl)) (hw _ (List.mem_of_getElem? (i := 8) rfl)) (by decide) (by decide)) q110a q110c (g := (mkF m 1 #[.val (.ref a1), .val (.int (0 : Int32)), .unset] [(.ref a1)])) rfl (by rw [hml]; rfl) (Steps.refl _) (argsL := []) (rest := []) (lenOf cpa_pd0 rfl) rfl (by show 2 * 0 + _ ≤ _; exact Nat.le_of_eq rfl) (hb hby cpa_d1) (fun _ _ => ⟨rfl, e0, Nat.le_of_ble_eq_true rfl, Nat.le_of_ble_eq_true rfl⟩)
  dsimp only [Pt.U, Pt.locs, Pt.cells, Pt.slots] at X110 l110 y110 z110 st110 hQ110
  subst l110 y110 z110
  obtain ⟨rfl, N110q, hh110⟩ := hQ110
  refine own_seq st110 ?_
  have N110 := Fr.app N0 N110q
  show OwnGo p e below (T110.setTop (mkF m 4 #[.val (.ref a1), .val (.int (0 : Int32)), .unset] [(.int (1 : Int32))])) _
  refine own_back (fun t k => XS.ifNo X110.here hx rfl (hb hby cpa_d4) rfl (Jvm.Free.XT.i0_eq_f (by decide)) k) ?_
  show OwnGo p e below (T110.setTop (mkF m 7 #[.val (.ref a1), .val (.int (0 : Int32)), .unset] [])) _
  refine own_back (fun t k => XS.iloadN X110.here hx rfl (hb hby cpa_d7) rfl k) ?_
  show OwnGo p e below (T110.setTop (mkF m 8 #[.val (.ref a1), .val (.int (0 : Int32)), .unset] [(.int (0 : Int32))])) _
  refine own_back (fun t k => XS.aloadN X110.here hx rfl (hb hby cpa_d8) rfl rfl k) ?_
  show OwnGo p e below (T110.setTop (mkF m 9 #[.val (.ref a1), .val (.int (0 : Int32)), .unset] [(.ref a1), (.int (0 : Int32))])) _
  obtain ⟨T111, X111, e111, st111⟩ := getF X110 hx hZ hown (host := "") (Or.inl (hw _ (List.mem_of_getElem? (i := 46) rfl))) Via.refl hh110 F1 (g := (mkF m 9 #[.val (.ref a1), .val (.int (0 : Int32)), .unset] [(.ref a1), (.int (0 : Int32))])) rfl rfl (hb hby cpa_d9)
  refine own_back st111 ?_
  show OwnGo p e below (T111.setTop (mkF m 12 #[.val (.ref a1), .val (.int (0 : Int32)), .unset] [(.ref t1), (.int (0 : Int32))])) _
  obtain ⟨c112, A112, q112, S112, M112, H112, U112⟩ := id (show Arv Z h0 t1 k1 .byte (1 : Int32) [.int y] (.int 0) from V1)
  refine own_back (fun t k => X111.arraylength hx (own_hat e111 A112.1) (State.isArrayOf_alike hZ.alike A112.2.1) (g := (mkF m 12 #[.val (.ref a1), .val (.int (0 : Int32)), .unset] [(.ref t1), (.int (0 : Int32))])) rfl rfl (hb hby cpa_d12) t k) ?_
  rw [len_of S112 M112]
  show OwnGo p e below (T111.setTop (mkF m 13 #[.val (.ref a1), .val (.int (0 : Int32)), .unset] [(.int (1 : Int32)), (.int (0 : Int32))])) _
  obtain ⟨_, _, ⟨T113, L113, k113, n113⟩, -, X113, ⟨Lc113, hQ113, l113, y113, z113⟩, st113⟩ := Jvm.LawKit.callS X111 hx (y := (⟨"java/lang/String", "checkIndex", "(II)V"⟩ : MethodName)) hown (mvT hZ (hw _ (List.mem_of_getElem? (i := 64) rfl))) (mvT hZ (hw _ (List.mem_of_getElem? (i := 65) rfl))) (mvT hZ (hw _ (List.mem_of_getElem? (i := 8) rfl))) (mvT hZ (hw _ (List.mem_of_getElem? (i := 66) rfl))) (by decide) (own_backN (W := 0) (rm_ci2 l Z a0 hw [] cz fm h0 n0 Z0 OL SC hcz SO hfm) hZ (hw _ (List.mem_of_getElem? (i := 66) rfl)) (hw _ (List.mem_of_getElem? (i := 8) rfl)) (by decide) (by decide)) (g := (mkF m 13 #[.val (.ref a1), .val (.int (0 : Int32)), .unset] [(.int (1 : Int32)), (.int (0 : Int32))])) rfl (by rw [hml]; rfl) (argsL := [(.int (0 : Int32)), (.int (1 : Int32))]) (rest := []) (lenOf cpa_pd1 rfl) rfl (by show 2 * 0 + _ ≤ _; exact Nat.le_of_eq rfl) (hb hby cpa_d13) (fun _ _ => ⟨rfl, e111, Nat.le_of_ble_eq_true rfl, Nat.le_of_ble_eq_true rfl⟩)
  dsimp only [Pt.U, Pt.locs, Pt.cells, Pt.slots] at X113 l113 y113 z113 st113 hQ113
  subst l113 y113 z113
  obtain ⟨rfl, N113q, hh113⟩ := hQ113
  refine own_back st113 ?_
  have N113 := Fr.app N110 N113q
  show OwnGo p e below (T113.setTop (mkF m 16 #[.val (.ref a1), .val (.int (0 : Int32)), .unset] [])) _
  refine own_back (fun t k => XS.aloadN X113.here hx rfl (hb hby cpa_d16) rfl rfl k) ?_
  show OwnGo p e below (T113.setTop (mkF m 17 #[.val (.ref a1), .val (.int (0 : Int32)), .unset] [(.ref a1)])) _
  obtain ⟨T114, X114, e114, st114⟩ := getF X113 hx hZ hown (host := "") (Or.inl (hw _ (List.mem_of_getElem? (i := 46) rfl))) Via.refl hh113 F1 (g := (mkF m 17 #[.val (.ref a1), .val (.int (0 : Int32)), .unset] [(.ref a1)])) rfl rfl (hb hby cpa_d17)
  refine own_back st114 ?_
  show OwnGo p e below (T114.setTop (mkF m 20 #[.val (.ref a1), .val (.int (0 : Int32)), .unset] [(.ref t1)])) _
  refine own_back (fun t k => XS.iloadN X114.here hx rfl (hb hby cpa_d20) rfl k) ?_
  show OwnGo p e below (T114.setTop (mkF m 21 #[.val (.ref a1), .val (.int (0 : Int32)), .unset] [(.int (0 : Int32)), (.ref t1)])) _
  obtain ⟨c115, A115, q115, S115, M115, H115, U115⟩ := id (show Arv Z h0 t1 k1 .byte (1 : Int32) [.int y] (.int 0) from V1)
  have ib116 : ¬ ((0 : Int32) < 0 ∨ c115.slots.size ≤ ((0 : Int32)).toNatClampNeg) := (inb_of S115 ⟨by decide, by decide⟩)
  refine own_back (fun t k => X114.baloadBytes hx (j := (0 : Int32)) (v := (.int y)) (own_hat e114 A115.1) (State.isArrayOf_alike hZ.alike A115.2.1) A115.2.2 ib116 (H115.at ib116 rfl) (g := (mkF m 21 #[.val (.ref a1), .val (.int (0 : Int32)), .unset] [(.int (0 : Int32)), (.ref t1)])) rfl rfl (hb hby cpa_d21) t k) ?_
  show OwnGo p e below (T114.setTop (mkF m 22 #[.val (.ref a1), .val (.int (0 : Int32)), .unset] [(.int y)])) _
  refine own_back (fun t k => XS.sipush X114.here hx rfl (hb hby cpa_d22) k) ?_
  show OwnGo p e below (T114.setTop (mkF m 25 #[.val (.ref a1), .val (.int (0 : Int32)), .unset] [(.int (255 : Int32)), (.int y)])) _
  refine own_back (fun t k => XS.iand X114.here hx rfl (hb hby cpa_d25) rfl k) ?_
  show OwnGo p e below (T114.setTop (mkF m 26 #[.val (.ref a1), .val (.int (0 : Int32)), .unset] [(.int (y &&& (255 : Int32)))])) _
  refine own_retI X114 hx Bd.notSynchronized Bd.returns (hb hby cpa_d26) e114 (Nat.le_of_ble_eq_true rfl) (Nat.le_of_ble_eq_true rfl) ?_
  exact ⟨rfl, N113, rfl⟩
theorem cc_d0 : decode jdk_89_method_18_code 0 = .ok (.iload_n 0, 1) := by decide +kernel
theorem cc_d1 : decode jdk_89_method_18_code 1 = .ok (.ldc 73, 2) := by decide +kernel
theorem cc_d3 : decode jdk_89_method_18_code 3 = .ok (.if_icmp .lt 7, 3) := by decide +kernel
theorem cc_d10 : decode jdk_89_method_18_code 10 = .ok (.iconst 1, 1) := by decide +kernel
theorem cc_d11 : decode jdk_89_method_18_code 11 = .ok (.ireturn, 1) := by decide +kernel
theorem cc_pn : plainName "java/lang/Character" = true := by first | (simp [plainName, overriddenIn]; done) | decide +kernel
theorem cc_ef (m : MethodId) (x0 : Int32) : entryFrame m #[(.int x0)] 1 = mkF m 0 #[.val (.int x0)] [] := by first | (simp [entryFrame, mkF, argsToLocals, Value.category]; done) | rfl
set_option maxRecDepth 65536 in
set_option maxHeartbeats 40000000 in
theorem rm_cc (l : Launch) (Z : State) (a0 : Array Value) (hw : ∀ d ∈ tables_1, d.before a0 Z = true) (ws : List Jvm.Cond) (x1 : Int32) (h0 : Heap) (n0 : Nat) (Z0 : n0 ≤ h0.size) (hy : x1 < (65536 : Int32)) :
    MetFree l (⟨"java/lang/Character", "charCount", "(I)I"⟩ : MethodName) (head1 (Jvm.Cond.code (⟨"java/lang/Character", "charCount", "(I)I"⟩ : MethodName) jdk_89_method_18_code 1 (some .int) :: ws) ({ frames := 0, cells := 0, slots := 0, locals := 0 } : Room)) (fun a U => a = #[(.int x1)] ∧ Z.Warmed39 U.vm ∧ U.heap = h0) (fun _ _ _ _ _ => True) (fun _ U o U' => OwnEnd U (fun v h L => v = some (.int 1) ∧ Fr n0 L ∧ h = h0) ({ frames := 0, cells := 0, slots := 0, locals := 0 } : Room).cells ({ frames := 0, cells := 0, slots := 0, locals := 0 } : Room).slots o U') := by
  refine MetFree.of_bodySF (plainFor_of_name cc_pn) hisR ?_
  intro p e s m args below meth c s₁ Bd hml0 hP hK
  obtain ⟨rfl, hZ, hh⟩ := hP
  have hx := Bd.exec
  have hby := Bd.bytes
  have hml : c.maxLocals = 1 := hml0
  have hown : s.vm.findClass "java/lang/Character" = some m.cls := findClass_of_methodNamed Bd.named
  have hnm := (name_of_methodNamed Bd.named Bd.method).1
  have X0 : Stand p l e ({ frames := 0, cells := 0, slots := 0, locals := 0 } : Room) s m #[(.int x1)] below meth c s₁ [] 0 0 := Stand.of_body Bd
  have e0 : s₁.heap = h0 := by rw [← hh, Bd.state]; rfl
  have N0 := Fr.nil n0
  have KP0 := Keep.refl h0 []
  refine own_go (Q := (OwnEnd s (fun v h L => v = some (.int 1) ∧ Fr n0 L ∧ h = h0) ({ frames := 0, cells := 0, slots := 0, locals := 0 } : Room).cells ({ frames := 0, cells := 0, slots := 0, locals := 0 } : Room).slots)) ?_
  refine own_back (fun t k => castTop (cc_ef m x1) k) ?_
  show OwnGo p e below (s₁.setTop (mkF m 0 #[.val (.int x1)] [])) _
  refine own_back (fun t k => XS.iloadN X0.here hx rfl (hb hby cc_d0) rfl k) ?_
  show OwnGo p e below (s₁.setTop (mkF m 1 #[.val (.int x1)] [(.int x1)])) _
  refine own_back (fun t k => X0.ldcInt hx hown (mvT hZ (hw _ (List.mem_of_getElem? (i := 77) rfl))) (g := (mkF m 1 #[.val (.int x1)] [(.int x1)])) rfl (hb hby cc_d1) t k) ?_
  show OwnGo p e below (s₁.setTop (mkF m 3 #[.val (.int x1)] [(.int (65536 : Int32)), (.int x1)])) _
  refine own_back (fun t k => XS.icmpYes X0.here hx rfl (pc0 := 3) (pc' := 10) rfl (hb hby cc_d3) rfl (Jvm.Free.XT.ii_lt_t hy) (by decide) (by decide) k) ?_
  show OwnGo p e below (s₁.setTop (mkF m 10 #[.val (.int x1)] [])) _
  refine own_back (fun t k => XS.iconst X0.here hx rfl (hb hby cc_d10) k) ?_
  show OwnGo p e below (s₁.setTop (mkF m 11 #[.val (.int x1)] [(.int (1 : Int32))])) _
  refine own_retI X0 hx Bd.notSynchronized Bd.returns (hb hby cc_d11) e0 (Nat.le_of_ble_eq_true rfl) (Nat.le_of_ble_eq_true rfl) ?_
  exact ⟨rfl, N0, rfl⟩
theorem own_b1 (y : Int32) {k : Int32} (hk : (255 : Int32) < k := by decide) : (y &&& (255 : Int32)) < k := by
  have h := c_and y 255 (by decide)
  have z : (255 : Int32).toInt = 255 := rfl
  rw [Int32.lt_iff_toInt_lt] at *
  omega
theorem chk_d0 : decode prog_8_method_3_code 0 = .ok (.aload_n 1, 1) := by decide +kernel
theorem chk_d1 : decode prog_8_method_3_code 1 = .ok (.aload_n 0, 1) := by decide +kernel
theorem chk_d2 : decode prog_8_method_3_code 2 = .ok (.invokestatic 25, 3) := by decide +kernel
theorem chk_d5 : decode prog_8_method_3_code 5 = .ok (.pop, 1) := by decide +kernel
theorem chk_d6 : decode prog_8_method_3_code 6 = .ok (.iconst 0, 1) := by decide +kernel
theorem chk_d7 : decode prog_8_method_3_code 7 = .ok (.istore_n 2, 1) := by decide +kernel
theorem chk_d8 : decode prog_8_method_3_code 8 = .ok (.iload_n 2, 1) := by decide +kernel
theorem chk_d9 : decode prog_8_method_3_code 9 = .ok (.aload_n 1, 1) := by decide +kernel
theorem chk_d10 : decode prog_8_method_3_code 10 = .ok (.invokevirtual 31, 3) := by decide +kernel
theorem chk_d13 : decode prog_8_method_3_code 13 = .ok (.if_icmp .ge 66, 3) := by decide +kernel
theorem chk_d16 : decode prog_8_method_3_code 16 = .ok (.aload_n 1, 1) := by decide +kernel
theorem chk_d17 : decode prog_8_method_3_code 17 = .ok (.iload_n 2, 1) := by decide +kernel
theorem chk_d18 : decode prog_8_method_3_code 18 = .ok (.invokevirtual 35, 3) := by decide +kernel
theorem chk_d21 : decode prog_8_method_3_code 21 = .ok (.istore_n 3, 1) := by decide +kernel
theorem chk_d22 : decode prog_8_method_3_code 22 = .ok (.iload_n 3, 1) := by decide +kernel
theorem chk_d23 : decode prog_8_method_3_code 23 = .ok (.ldc 41, 2) := by decide +kernel
theorem chk_d25 : decode prog_8_method_3_code 25 = .ok (.if_icmp .lt 44, 3) := by decide +kernel
theorem chk_d69 : decode prog_8_method_3_code 69 = .ok (.iload_n 2, 1) := by decide +kernel
theorem chk_d70 : decode prog_8_method_3_code 70 = .ok (.iload_n 3, 1) := by decide +kernel
theorem chk_d71 : decode prog_8_method_3_code 71 = .ok (.invokestatic 60, 3) := by decide +kernel
theorem chk_d74 : decode prog_8_method_3_code 74 = .ok (.iadd, 1) := by decide +kernel
theorem chk_d75 : decode prog_8_method_3_code 75 = .ok (.istore_n 2, 1) := by decide +kernel
theorem chk_d76 : decode prog_8_method_3_code 76 = .ok (.goto (-68), 3) := by decide +kernel
theorem chk_d79 : decode prog_8_method_3_code 79 = .ok (.aload_n 1, 1) := by decide +kernel
theorem chk_d80 : decode prog_8_method_3_code 80 = .ok (.areturn, 1) := by decide +kernel
theorem chk_pn : plainName "com/example/sorted_set_patterns/sortedsetpatterns/Utf8" = true := by first | (simp [plainName, overriddenIn]; done) | decide +kernel
theorem chk_pd0 : parseMethodDescriptor "(Ljava/lang/Object;Ljava/lang/String;)Ljava/lang/Object;" = some ⟨[(.object "java/lang/Object"), (.object "java/lang/String")], some (.object "java/lang/Object")⟩ := by decide +kernel
theorem chk_pd1 : parseMethodDescriptor "()I" = some ⟨[], some .int⟩ := by decide +kernel
theorem chk_pd2 : parseMethodDescriptor "(I)I" = some ⟨[.int], some .int⟩ := by decide +kernel
theorem chk_ef (m : MethodId) (x0 : Addr) (x1 : Addr) : entryFrame m #[(.ref x0), (.ref x1)] 4 = mkF m 0 #[.val (.ref x0), .val (.ref x1), .unset, .unset] [] := by first | (simp [entryFrame, mkF, argsToLocals, Value.category]; done) | rfl
set_option maxRecDepth 65536 in
set_option maxHeartbeats 40000000 in
theorem rm_chk (l : Launch) (Z : State) (a0 : Array Value) (hw : ∀ d ∈ tables_1, d.before a0 Z = true) (ws : List Jvm.Cond) (al : Addr) (a1 : Addr) (y : Int32) (cz : Int32) (fm : Value) (h0 : Heap) (n0 : Nat) (Z0 : n0 ≤ h0.size) (OL : Old Z n0 h0) (B1 : OwnStr Z h0 a1 [y]) (SC : Sta Z Z.heap "java/lang/String" "COMPACT_STRINGS" "Z" (.int cz)) (hcz : ¬ cz = 0) (SO : Sta Z Z.heap "jdk/internal/util/Preconditions" "SIOOBE_FORMATTER" "Ljava/util/function/BiFunction;" fm) (hfm : fm.isRef = true) :
    MetFree l (⟨"com/example/sorted_set_patterns/sortedsetpatterns/Utf8", "checked", "(Ljava/lang/String;Ljava/lang/String;)Ljava/lang/String;"⟩ : MethodName) (head1 (Jvm.Cond.code (⟨"com/example/sorted_set_patterns/sortedsetpatterns/Utf8", "checked", "(Ljava/lang/String;Ljava/lang/String;)Ljava/lang/String;"⟩ : MethodName) prog_8_method_3_code 4 (some (.object "java/lang/String")) :: ws) ({ frames := 3, cells := 0, slots := 0, locals := 80 } : Room)) (fun a U => a = #[(.ref al), (.ref a1)] ∧ Z.Warmed39 U.vm ∧ U.heap = h0) (fun _ _ _ _ _ => True) (fun _ U o U' => OwnEnd U (fun v h L => v = some (.ref a1) ∧ Fr n0 L ∧ h = h0) ({ frames := 3, cells := 0, slots := 0, locals := 80 } : Room).cells ({ frames := 3, cells := 0, slots := 0, locals := 80 } : Room).slots o U') := by
  refine MetFree.of_bodySF (plainFor_of_name chk_pn) hisR ?_
  intro p e s m args below meth c s₁ Bd hml0 hP hK
  obtain ⟨rfl, hZ, hh⟩ := hP
  have hx := Bd.exec
  have hby := Bd.bytes
  have hml : c.maxLocals = 4 := hml0
  have hown : s.vm.findClass "com/example/sorted_set_patterns/sortedsetpatterns/Utf8" = some m.cls := findClass_of_methodNamed Bd.named
  have hnm := (name_of_methodNamed Bd.named Bd.method).1
  have X0 : Stand p l e ({ frames := 3, cells := 0, slots := 0, locals := 80 } : Room) s m #[(.ref al), (.ref a1)] below meth c s₁ [] 0 0 := Stand.of_body Bd
  have e0 : s₁.heap = h0 := by rw [← hh, Bd.state]; rfl
  have N0 := Fr.nil n0
  have KP0 := Keep.refl h0 []
  refine own_go (Q := (OwnEnd s (fun v h L => v = some (.ref a1) ∧ Fr n0 L ∧ h = h0) ({ frames := 3, cells := 0, slots := 0, locals := 80 } : Room).cells ({ frames := 3, cells := 0, slots := 0, locals := 80 } : Room).slots)) ?_
  refine own_back (fun t k => castTop (chk_ef m al a1) k) ?_
  show OwnGo p e below (s₁.setTop (mkF m 0 #[.val (.ref al), .val (.ref a1), .unset, .unset] [])) _
  have E1 := B1.exa
  refine own_back (fun t k => XS.aloadN X0.here hx rfl (hb hby chk_d0) rfl rfl k) ?_
  show OwnGo p e below (s₁.setTop (mkF m 1 #[.val (.ref al), .val (.ref a1), .unset, .unset] [(.ref a1)])) _
  refine own_back (fun t k => XS.aloadN X0.here hx rfl (hb hby chk_d1) rfl rfl k) ?_
  show OwnGo p e below (s₁.setTop (mkF m 2 #[.val (.ref al), .val (.ref a1), .unset, .unset] [(.ref al), (.ref a1)])) _
  obtain ⟨_, _, ⟨T117, L117, k117, n117⟩, -, X117, ⟨Lc117, hQ117, l117, y117, z117⟩, st117⟩ := Jvm.LawKit.callS X0 hx (y := (⟨"java/util/Objects", "requireNonNull", "(Ljava/lang/Object;Ljava/lang/String;)Ljava/lang/Object;"⟩ : MethodName)) hown (mvT hZ (hw _ (List.mem_of_getElem? (i := 37) rfl))) (mvT hZ (hw _ (List.mem_of_getElem? (i := 38) rfl))) (mvT hZ (hw _ (List.mem_of_getElem? (i := 39) rfl))) (mvT hZ (hw _ (List.mem_of_getElem? (i := 40) rfl))) (by decide) (own_backN (W := 0) (rm_rnn l Z a0 hw [] a1 al h0 n0 Z0) hZ (hw _ (List.mem_of_getElem? (i := 40) rfl)) (hw _ (List.mem_of_getElem? (i := 39) rfl)) (by decide) (by decide)) (g := (mkF m 2 #[.val (.ref al), .val (.ref a1), .unset, .unset] [(.ref al), (.ref a1)])) rfl (by rw [hml]; rfl) (argsL := [(.ref a1), (.ref al)]) (rest := []) (lenOf chk_pd0 rfl) rfl (by show 2 * 0 + _ ≤ _; exact Nat.le_of_eq rfl) (hb hby chk_d2) (fun _ _ => ⟨rfl, e0, Nat.le_of_ble_eq_true rfl, Nat.le_of_ble_eq_true rfl⟩)
  dsimp only [Pt.U, Pt.locs, Pt.cells, Pt.slots] at X117 l117 y117 z117 st117 hQ117
  subst l117 y117 z117
  obtain ⟨rfl, N117q, hh117⟩ := hQ117
  refine own_back st117 ?_
  have N117 := Fr.app N0 N117q
  show OwnGo p e below (T117.setTop (mkF m 5 #[.val (.ref al), .val (.ref a1), .unset, .unset] [(.ref a1)])) _
  refine own_back (fun t k => XS.pop X117.here hx rfl (hb hby chk_d5) rfl rfl k) ?_
  show OwnGo p e below (T117.setTop (mkF m 6 #[.val (.ref al), .val (.ref a1), .unset, .unset] [])) _
  refine own_back (fun t k => XS.iconst X117.here hx rfl (hb hby chk_d6) k) ?_
  show OwnGo p e below (T117.setTop (mkF m 7 #[.val (.ref al), .val (.ref a1), .unset, .unset] [(.int (0 : Int32))])) _
  refine own_back (fun t k => XS.istoreN X117.here hx rfl (hb hby chk_d7) rfl (l' := #[.val (.ref al), .val (.ref a1), .val (.int (0 : Int32)), .unset]) rfl k) ?_
  show OwnGo p e below (T117.setTop (mkF m 8 #[.val (.ref al), .val (.ref a1), .val (.int (0 : Int32)), .unset] [])) _
  refine own_back (fun t k => XS.iloadN X117.here hx rfl (hb hby chk_d8) rfl k) ?_
  show OwnGo p e below (T117.setTop (mkF m 9 #[.val (.ref al), .val (.ref a1), .val (.int (0 : Int32)), .unset] [(.int (0 : Int32))])) _
  refine own_back (fun t k => XS.aloadN X117.here hx rfl (hb hby chk_d9) rfl rfl k) ?_
  show OwnGo p e below (T117.setTop (mkF m 10 #[.val (.ref al), .val (.ref a1), .val (.int (0 : Int32)), .unset] [(.ref a1), (.int (0 : Int32))])) _
  obtain ⟨cq118, kq118, q118a, q118b, q118c⟩ := isOf hZ hh117 E1
  obtain ⟨_, _, ⟨T118, L118, k118, n118⟩, -, X118, ⟨Lc118, hQ118, l118, y118, z118⟩, st118⟩ := X117.virtualBack hx (y := (⟨"java/lang/String", "length", "()I"⟩ : MethodName)) (z := (⟨"java/lang/String", "length", "()I"⟩ : MethodName)) hown (mvT hZ (hw _ (List.mem_of_getElem? (i := 41) rfl))) (mvT hZ (hw _ (List.mem_of_getElem? (i := 42) rfl))) (notFace_of_selects (args := #[]) (mvT hZ (hw _ (List.mem_of_getElem? (i := 44) rfl)))) (mvT hZ (hw _ (List.mem_of_getElem? (i := 44) rfl))) (mvT hZ (hw _ (List.mem_of_getElem? (i := 43) rfl))) (by decide) (own_backN (W := 1) (rm_len l Z a0 hw [] a1 y cz h0 n0 Z0 OL B1 SC hcz) hZ (hw _ (List.mem_of_getElem? (i := 45) rfl)) (hw _ (List.mem_of_getElem? (i := 8) rfl)) (by decide) (by decide)) q118a q118c (g := (mkF m 10 #[.val (.ref al), .val (.ref a1), .val (.int (0 : Int32)), .unset] [(.ref a1), (.int (0 : Int32))])) rfl (by rw [hml]; rfl) (Steps.refl _) (argsL := []) (rest := [(.int (0 : Int32))]) (lenOf chk_pd1 rfl) rfl (by show 2 * 0 + _ ≤ _; exact Nat.le_of_eq rfl) (hb hby chk_d10) (fun _ _ => ⟨rfl, hh117, Nat.le_of_ble_eq_true rfl, Nat.le_of_ble_eq_true rfl⟩)
  dsimp only [Pt.U, Pt.locs, Pt.cells, Pt.slots] at X118 l118 y118 z118 st118 hQ118
  subst l118 y118 z118
  obtain ⟨rfl, N118q, hh118⟩ := hQ118
  refine own_seq st118 ?_
  have N118 := Fr.app N117 N118q
  show OwnGo p e below (T118.setTop (mkF m 13 #[.val (.ref al), .val (.ref a1), .val (.int (0 : Int32)), .unset] [(.int (1 : Int32)), (.int (0 : Int32))])) _
  refine own_back (fun t k => XS.icmpNo X118.here hx rfl (hb hby chk_d13) rfl (Jvm.Free.XT.ii_ge_f (by decide)) k) ?_
  show OwnGo p e below (T118.setTop (mkF m 16 #[.val (.ref al), .val (.ref a1), .val (.int (0 : Int32)), .unset] [])) _
  refine own_back (fun t k => XS.aloadN X118.here hx rfl (hb hby chk_d16) rfl rfl k) ?_
  show OwnGo p e below (T118.setTop (mkF m 17 #[.val (.ref al), .val (.ref a1), .val (.int (0 : Int32)), .unset] [(.ref a1)])) _
  refine own_back (fun t k => XS.iloadN X118.here hx rfl (hb hby chk_d17) rfl k) ?_
  show OwnGo p e below (T118.setTop (mkF m 18 #[.val (.ref al), .val (.ref a1), .val (.int (0 : Int32)), .unset] [(.int (0 : Int32)), (.ref a1)])) _
  obtain ⟨cq119, kq119, q119a, q119b, q119c⟩ := isOf hZ hh118 E1
  obtain ⟨_, _, ⟨T119, L119, k119, n119⟩, -, X119, ⟨Lc119, hQ119, l119, y119, z119⟩, st119⟩ := X118.virtualBack hx (y := (⟨"java/lang/String", "codePointAt", "(I)I"⟩ : MethodName)) (z := (⟨"java/lang/String", "codePointAt", "(I)I"⟩ : MethodName)) hown (mvT hZ (hw _ (List.mem_of_getElem? (i := 54) rfl))) (mvT hZ (hw _ (List.mem_of_getElem? (i := 55) rfl))) (notFace_of_selects (args := #[]) (mvT hZ (hw _ (List.mem_of_getElem? (i := 57) rfl)))) (mvT hZ (hw _ (List.mem_of_getElem? (i := 57) rfl))) (mvT hZ (hw _ (List.mem_of_getElem? (i := 56) rfl))) (by decide) (own_backN (W := 0) (rm_cpa l Z a0 hw [] a1 y cz fm h0 n0 Z0 OL B1 SC hcz SO hfm) hZ (hw _ (List.mem_of_getElem? (i := 58) rfl)) (hw _ (List.mem_of_getElem? (i := 8) rfl)) (by decide) (by decide)) q119a q119c (g := (mkF m 18 #[.val (.ref al), .val (.ref a1), .val (.int (0 : Int32)), .unset] [(.int (0 : Int32)), (.ref a1)])) rfl (by rw [hml]; rfl) (Steps.refl _) (argsL := [(.int (0 : Int32))]) (rest := []) (lenOf chk_pd2 rfl) rfl (by show 2 * 0 + _ ≤ _; exact Nat.le_of_eq rfl) (hb hby chk_d18) (fun _ _ => ⟨rfl, hh118, Nat.le_of_ble_eq_true rfl, Nat.le_of_ble_eq_true rfl⟩)
  dsimp only [Pt.U, Pt.locs, Pt.cells, Pt.slots] at X119 l119 y119 z119 st119 hQ119
  subst l119 y119 z119
  obtain ⟨rfl, N119q, hh119⟩ := hQ119
  refine own_seq st119 ?_
  have N119 := Fr.app N118 N119q
  show OwnGo p e below (T119.setTop (mkF m 21 #[.val (.ref al), .val (.ref a1), .val (.int (0 : Int32)), .unset] [(.int (y &&& (255 : Int32)))])) _
  refine own_back (fun t k => XS.istoreN X119.here hx rfl (hb hby chk_d21) rfl (l' := #[.val (.ref al), .val (.ref a1), .val (.int (0 : Int32)), .val (.int (y &&& (255 : Int32)))]) rfl k) ?_
  show OwnGo p e below (T119.setTop (mkF m 22 #[.val (.ref al), .val (.ref a1), .val (.int (0 : Int32)), .val (.int (y &&& (255 : Int32)))] [])) _
  refine own_back (fun t k => XS.iloadN X119.here hx rfl (hb hby chk_d22) rfl k) ?_
  show OwnGo p e below (T119.setTop (mkF m 23 #[.val (.ref al), .val (.ref a1), .val (.int (0 : Int32)), .val (.int (y &&& (255 : Int32)))] [(.int (y &&& (255 : Int32)))])) _
  refine own_back (fun t k => X119.ldcInt hx hown (mvT hZ (hw _ (List.mem_of_getElem? (i := 72) rfl))) (g := (mkF m 23 #[.val (.ref al), .val (.ref a1), .val (.int (0 : Int32)), .val (.int (y &&& (255 : Int32)))] [(.int (y &&& (255 : Int32)))])) rfl (hb hby chk_d23) t k) ?_
  show OwnGo p e below (T119.setTop (mkF m 25 #[.val (.ref al), .val (.ref a1), .val (.int (0 : Int32)), .val (.int (y &&& (255 : Int32)))] [(.int (55296 : Int32)), (.int (y &&& (255 : Int32)))])) _
  refine own_back (fun t k => XS.icmpYes X119.here hx rfl (pc0 := 25) (pc' := 69) rfl (hb hby chk_d25) rfl (Jvm.Free.XT.ii_lt_t (own_b1 y)) (by decide) (by decide) k) ?_
  show OwnGo p e below (T119.setTop (mkF m 69 #[.val (.ref al), .val (.ref a1), .val (.int (0 : Int32)), .val (.int (y &&& (255 : Int32)))] [])) _
  refine own_back (fun t k => XS.iloadN X119.here hx rfl (hb hby chk_d69) rfl k) ?_
  show OwnGo p e below (T119.setTop (mkF m 70 #[.val (.ref al), .val (.ref a1), .val (.int (0 : Int32)), .val (.int (y &&& (255 : Int32)))] [(.int (0 : Int32))])) _
  refine own_back (fun t k => XS.iloadN X119.here hx rfl (hb hby chk_d70) rfl k) ?_
  show OwnGo p e below (T119.setTop (mkF m 71 #[.val (.ref al), .val (.ref a1), .val (.int (0 : Int32)), .val (.int (y &&& (255 : Int32)))] [(.int (y &&& (255 : Int32))), (.int (0 : Int32))])) _
  obtain ⟨_, _, ⟨T120, L120, k120, n120⟩, -, X120, ⟨Lc120, hQ120, l120, y120, z120⟩, st120⟩ := Jvm.LawKit.callS X119 hx (y := (⟨"java/lang/Character", "charCount", "(I)I"⟩ : MethodName)) hown (mvT hZ (hw _ (List.mem_of_getElem? (i := 73) rfl))) (mvT hZ (hw _ (List.mem_of_getElem? (i := 74) rfl))) (mvT hZ (hw _ (List.mem_of_getElem? (i := 75) rfl))) (mvT hZ (hw _ (List.mem_of_getElem? (i := 76) rfl))) (by decide) (own_backN (W := 1) (rm_cc l Z a0 hw [] (y &&& (255 : Int32)) h0 n0 Z0 (own_b1 y)) hZ (hw _ (List.mem_of_getElem? (i := 76) rfl)) (hw _ (List.mem_of_getElem? (i := 75) rfl)) (by decide) (by decide)) (g := (mkF m 71 #[.val (.ref al), .val (.ref a1), .val (.int (0 : Int32)), .val (.int (y &&& (255 : Int32)))] [(.int (y &&& (255 : Int32))), (.int (0 : Int32))])) rfl (by rw [hml]; rfl) (argsL := [(.int (y &&& (255 : Int32)))]) (rest := [(.int (0 : Int32))]) (lenOf chk_pd2 rfl) rfl (by show 2 * 0 + _ ≤ _; exact Nat.le_of_eq rfl) (hb hby chk_d71) (fun _ _ => ⟨rfl, hh119, Nat.le_of_ble_eq_true rfl, Nat.le_of_ble_eq_true rfl⟩)
  dsimp only [Pt.U, Pt.locs, Pt.cells, Pt.slots] at X120 l120 y120 z120 st120 hQ120
  subst l120 y120 z120
  obtain ⟨rfl, N120q, hh120⟩ := hQ120
  refine own_back st120 ?_
  have N120 := Fr.app N119 N120q
  show OwnGo p e below (T120.setTop (mkF m 74 #[.val (.ref al), .val (.ref a1), .val (.int (0 : Int32)), .val (.int (y &&& (255 : Int32)))] [(.int (1 : Int32)), (.int (0 : Int32))])) _
  refine own_back (fun t k => XS.iadd X120.here hx rfl (hb hby chk_d74) rfl k) ?_
  show OwnGo p e below (T120.setTop (mkF m 75 #[.val (.ref al), .val (.ref a1), .val (.int (0 : Int32)), .val (.int (y &&& (255 : Int32)))] [(.int (1 : Int32))])) _
  refine own_back (fun t k => XS.istoreN X120.here hx rfl (hb hby chk_d75) rfl (l' := #[.val (.ref al), .val (.ref a1), .val (.int (1 : Int32)), .val (.int (y &&& (255 : Int32)))]) rfl k) ?_
  show OwnGo p e below (T120.setTop (mkF m 76 #[.val (.ref al), .val (.ref a1), .val (.int (1 : Int32)), .val (.int (y &&& (255 : Int32)))] [])) _
  refine own_back (fun t k => XS.goto X120.here hx rfl (pc0 := 76) (pc' := 8) rfl (hb hby chk_d76) (by decide) (by decide) k) ?_
  show OwnGo p e below (T120.setTop (mkF m 8 #[.val (.ref al), .val (.ref a1), .val (.int (1 : Int32)), .val (.int (y &&& (255 : Int32)))] [])) _
  refine own_back (fun t k => XS.iloadN X120.here hx rfl (hb hby chk_d8) rfl k) ?_
  show OwnGo p e below (T120.setTop (mkF m 9 #[.val (.ref al), .val (.ref a1), .val (.int (1 : Int32)), .val (.int (y &&& (255 : Int32)))] [(.int (1 : Int32))])) _
  refine own_back (fun t k => XS.aloadN X120.here hx rfl (hb hby chk_d9) rfl rfl k) ?_
  show OwnGo p e below (T120.setTop (mkF m 10 #[.val (.ref al), .val (.ref a1), .val (.int (1 : Int32)), .val (.int (y &&& (255 : Int32)))] [(.ref a1), (.int (1 : Int32))])) _
  obtain ⟨cq121, kq121, q121a, q121b, q121c⟩ := isOf hZ hh120 E1
  obtain ⟨_, _, ⟨T121, L121, k121, n121⟩, -, X121, ⟨Lc121, hQ121, l121, y121, z121⟩, st121⟩ := X120.virtualBack hx (y := (⟨"java/lang/String", "length", "()I"⟩ : MethodName)) (z := (⟨"java/lang/String", "length", "()I"⟩ : MethodName)) hown (mvT hZ (hw _ (List.mem_of_getElem? (i := 41) rfl))) (mvT hZ (hw _ (List.mem_of_getElem? (i := 42) rfl))) (notFace_of_selects (args := #[]) (mvT hZ (hw _ (List.mem_of_getElem? (i := 44) rfl)))) (mvT hZ (hw _ (List.mem_of_getElem? (i := 44) rfl))) (mvT hZ (hw _ (List.mem_of_getElem? (i := 43) rfl))) (by decide) (own_backN (W := 1) (rm_len l Z a0 hw [] a1 y cz h0 n0 Z0 OL B1 SC hcz) hZ (hw _ (List.mem_of_getElem? (i := 45) rfl)) (hw _ (List.mem_of_getElem? (i := 8) rfl)) (by decide) (by decide)) q121a q121c (g := (mkF m 10 #[.val (.ref al), .val (.ref a1), .val (.int (1 : Int32)), .val (.int (y &&& (255 : Int32)))] [(.ref a1), (.int (1 : Int32))])) rfl (by rw [hml]; rfl) (Steps.refl _) (argsL := []) (rest := [(.int (1 : Int32))]) (lenOf chk_pd1 rfl) rfl (by show 2 * 0 + _ ≤ _; exact Nat.le_of_eq rfl) (hb hby chk_d10) (fun _ _ => ⟨rfl, hh120, Nat.le_of_ble_eq_true rfl, Nat.le_of_ble_eq_true rfl⟩)
  dsimp only [Pt.U, Pt.locs, Pt.cells, Pt.slots] at X121 l121 y121 z121 st121 hQ121
  subst l121 y121 z121
  obtain ⟨rfl, N121q, hh121⟩ := hQ121
  refine own_seq st121 ?_
  have N121 := Fr.app N120 N121q
  show OwnGo p e below (T121.setTop (mkF m 13 #[.val (.ref al), .val (.ref a1), .val (.int (1 : Int32)), .val (.int (y &&& (255 : Int32)))] [(.int (1 : Int32)), (.int (1 : Int32))])) _
  refine own_back (fun t k => XS.icmpYes X121.here hx rfl (pc0 := 13) (pc' := 79) rfl (hb hby chk_d13) rfl (Jvm.Free.XT.ii_ge_t (by decide)) (by decide) (by decide) k) ?_
  show OwnGo p e below (T121.setTop (mkF m 79 #[.val (.ref al), .val (.ref a1), .val (.int (1 : Int32)), .val (.int (y &&& (255 : Int32)))] [])) _
  refine own_back (fun t k => XS.aloadN X121.here hx rfl (hb hby chk_d79) rfl rfl k) ?_
  show OwnGo p e below (T121.setTop (mkF m 80 #[.val (.ref al), .val (.ref a1), .val (.int (1 : Int32)), .val (.int (y &&& (255 : Int32)))] [(.ref a1)])) _
  refine own_retA X121 hx Bd.notSynchronized Bd.returns rfl rfl (hb hby chk_d80) hh121 (Nat.le_of_ble_eq_true rfl) (Nat.le_of_ble_eq_true rfl) ?_
  exact ⟨rfl, N121, rfl⟩
theorem f6_d0 : decode prog_1_method_2_code 0 = .ok (.aload_n 0, 1) := by decide +kernel
theorem f6_d1 : decode prog_1_method_2_code 1 = .ok (.invokespecial 18, 3) := by decide +kernel
theorem f6_d4 : decode prog_1_method_2_code 4 = .ok (.aload_n 0, 1) := by decide +kernel
theorem f6_d5 : decode prog_1_method_2_code 5 = .ok (.ldc 23, 2) := by decide +kernel
theorem f6_d7 : decode prog_1_method_2_code 7 = .ok (.aload_n 1, 1) := by decide +kernel
theorem f6_d8 : decode prog_1_method_2_code 8 = .ok (.invokestatic 25, 3) := by decide +kernel
theorem f6_d11 : decode prog_1_method_2_code 11 = .ok (.putfield 31, 3) := by decide +kernel
theorem f6_d14 : decode prog_1_method_2_code 14 = .ok (.aload_n 0, 1) := by decide +kernel
theorem f6_d15 : decode prog_1_method_2_code 15 = .ok (.lload_n 2, 1) := by decide +kernel
theorem f6_d16 : decode prog_1_method_2_code 16 = .ok (.putfield 34, 3) := by decide +kernel
theorem f6_d19 : decode prog_1_method_2_code 19 = .ok (.aload_n 0, 1) := by decide +kernel
theorem f6_d20 : decode prog_1_method_2_code 20 = .ok (.lload 4, 2) := by decide +kernel
theorem f6_d22 : decode prog_1_method_2_code 22 = .ok (.putfield 38, 3) := by decide +kernel
theorem f6_d25 : decode prog_1_method_2_code 25 = .ok (.aload_n 0, 1) := by decide +kernel
theorem f6_d26 : decode prog_1_method_2_code 26 = .ok (.aload 6, 2) := by decide +kernel
theorem f6_d28 : decode prog_1_method_2_code 28 = .ok (.ldc 41, 2) := by decide +kernel
theorem f6_d30 : decode prog_1_method_2_code 30 = .ok (.invokestatic 43, 3) := by decide +kernel
theorem f6_d33 : decode prog_1_method_2_code 33 = .ok (.checkcast 49, 3) := by decide +kernel
theorem f6_d36 : decode prog_1_method_2_code 36 = .ok (.putfield 51, 3) := by decide +kernel
theorem f6_d39 : decode prog_1_method_2_code 39 = .ok (.aload_n 0, 1) := by decide +kernel
theorem f6_d40 : decode prog_1_method_2_code 40 = .ok (.iload 7, 2) := by decide +kernel
theorem f6_d42 : decode prog_1_method_2_code 42 = .ok (.putfield 54, 3) := by decide +kernel
theorem f6_d45 : decode prog_1_method_2_code 45 = .ok (.return_, 1) := by decide +kernel
theorem f6_pn : plainName "com/example/sorted_set_patterns/sortedsetpatterns/Field" = true := by first | (simp [plainName, overriddenIn]; done) | decide +kernel
theorem f6_pd0 : parseMethodDescriptor "(Ljava/lang/String;Ljava/lang/String;)Ljava/lang/String;" = some ⟨[(.object "java/lang/String"), (.object "java/lang/String")], some (.object "java/lang/String")⟩ := by decide +kernel
theorem f6_pd1 : parseMethodDescriptor "(Ljava/lang/Object;Ljava/lang/String;)Ljava/lang/Object;" = some ⟨[(.object "java/lang/Object"), (.object "java/lang/String")], some (.object "java/lang/Object")⟩ := by decide +kernel
theorem f6_ef (m : MethodId) (x0 : Addr) (x1 : Addr) (x2 : Int64) (x3 : Int64) (x4 : Addr) (x5 : Int32) : entryFrame m #[(.ref x0), (.ref x1), (.long x2), (.long x3), (.ref x4), (.int x5)] 8 = mkF m 0 #[.val (.ref x0), .val (.ref x1), .val (.long x2), .second, .val (.long x3), .second, .val (.ref x4), .val (.int x5)] [] := by first | (simp [entryFrame, mkF, argsToLocals, Value.category]; done) | rfl
set_option maxRecDepth 65536 in
set_option maxHeartbeats 40000000 in
theorem rm_f6 (l : Launch) (Z : State) (a0 : Array Value) (hw : ∀ d ∈ tables_1, d.before a0 Z = true) (ws : List Jvm.Cond) (a1 : Addr) (a2 : Addr) (y : Int32) (q1 : Int64) (q2 : Int64) (wo : Addr) (p7 : Int32) (g0 : Value) (g1 : Value) (g2 : Value) (g3 : Value) (g4 : Value) (cz : Int32) (fm : Value) (h0 : Heap) (n0 : Nat) (Z0 : n0 ≤ h0.size) (OL : Old Z n0 h0) (E1 : Exa Z h0 a1 "com/example/sorted_set_patterns/sortedsetpatterns/Field") (G0 : Fld Z h0 a1 "com/example/sorted_set_patterns/sortedsetpatterns/Field" "name" "Ljava/lang/String;" g0) (G1 : Fld Z h0 a1 "com/example/sorted_set_patterns/sortedsetpatterns/Field" "min" "J" g1) (G2 : Fld Z h0 a1 "com/example/sorted_set_patterns/sortedsetpatterns/Field" "max" "J" g2) (G3 : Fld Z h0 a1 "com/example/sorted_set_patterns/sortedsetpatterns/Field" "order" "Lcom/example/sorted_set_patterns/sortedsetpatterns/Field$Order;" g3) (G4 : Fld Z h0 a1 "com/example/sorted_set_patterns/sortedsetpatterns/Field" "instant" "Z" g4) (ga1 : n0 ≤ a1) (B2 : OwnStr Z h0 a2 [y]) (EO : Exa Z Z.heap wo "com/example/sorted_set_patterns/sortedsetpatterns/Field$Order") (SC : Sta Z Z.heap "java/lang/String" "COMPACT_STRINGS" "Z" (.int cz)) (hcz : ¬ cz = 0) (SO : Sta Z Z.heap "jdk/internal/util/Preconditions" "SIOOBE_FORMATTER" "Ljava/util/function/BiFunction;" fm) (hfm : fm.isRef = true) :
    MetFree l (⟨"com/example/sorted_set_patterns/sortedsetpatterns/Field", "<init>", "(Ljava/lang/String;JJLcom/example/sorted_set_patterns/sortedsetpatterns/Field$Order;Z)V"⟩ : MethodName) (head1 (Jvm.Cond.code (⟨"com/example/sorted_set_patterns/sortedsetpatterns/Field", "<init>", "(Ljava/lang/String;JJLcom/example/sorted_set_patterns/sortedsetpatterns/Field$Order;Z)V"⟩ : MethodName) prog_1_method_2_code 8 none :: ws) ({ frames := 4, cells := 4, slots := 44, locals := 110 } : Room)) (fun a U => a = #[(.ref a1), (.ref a2), (.long q1), (.long q2), (.ref wo), (.int p7)] ∧ Z.Warmed39 U.vm ∧ U.heap = h0 ∧ CHv Z own_EL U.vm h0 ∧ ∀ x ∈ ([] : List Addr), Safe Z own_EL U.vm h0 x) (fun _ _ _ _ _ => True) (fun _ U o U' => OwnEndW Z own_EL U (fun v h L => v = none ∧ Fr n0 L ∧ Keep h0 h [a1] ∧ Fld Z h a1 "com/example/sorted_set_patterns/sortedsetpatterns/Field" "min" "J" (.long q1) ∧ Fld Z h a1 "com/example/sorted_set_patterns/sortedsetpatterns/Field" "max" "J" (.long q2) ∧ Fld Z h a1 "com/example/sorted_set_patterns/sortedsetpatterns/Field" "order" "Lcom/example/sorted_set_patterns/sortedsetpatterns/Field$Order;" (.ref wo)) ({ frames := 4, cells := 4, slots := 44, locals := 110 } : Room).cells ({ frames := 4, cells := 4, slots := 44, locals := 110 } : Room).slots o U') := by
  refine MetFree.of_bodySF (plainFor_of_name f6_pn) hisR ?_
  intro p e s m args below meth c s₁ Bd hml0 hP hK
  obtain ⟨rfl, hZ, hh, hCH, hSL⟩ := hP
  have hx := Bd.exec
  have hby := Bd.bytes
  have hml : c.maxLocals = 8 := hml0
  have hown : s.vm.findClass "com/example/sorted_set_patterns/sortedsetpatterns/Field" = some m.cls := findClass_of_methodNamed Bd.named
  have hnm := (name_of_methodNamed Bd.named Bd.method).1
  have X0 : Stand p l e ({ frames := 4, cells := 4, slots := 44, locals := 110 } : Room) (s.setVm s.vm) m #[(.ref a1), (.ref a2), (.long q1), (.long q2), (.ref wo), (.int p7)] below meth c s₁ [] 0 0 := Stand.of_body Bd
  have e0 : s₁.heap = h0 := by rw [← hh, Bd.state]; rfl
  have N0 := Fr.nil n0
  have KP0 := Keep.refl h0 [a1]
  have hown : (s.setVm s.vm).vm.findClass "com/example/sorted_set_patterns/sortedsetpatterns/Field" = some m.cls := hown
  have hZ : Z.Warmed39 (s.setVm s.vm).vm := hZ
  have hS0 : s.Since s.vm 0 := (State.WarmedH.refl s).since 0
  have hk0 : 0 ≤ h0.size := Nat.zero_le _
  have CR0 : CHr Z own_EL s.vm h0 s.vm h0 := CHr.refl hCH
  have hEL := own_EW hw
  refine own_go (Q := (OwnEndW Z own_EL s (fun v h L => v = none ∧ Fr n0 L ∧ Keep h0 h [a1] ∧ Fld Z h a1 "com/example/sorted_set_patterns/sortedsetpatterns/Field" "min" "J" (.long q1) ∧ Fld Z h a1 "com/example/sorted_set_patterns/sortedsetpatterns/Field" "max" "J" (.long q2) ∧ Fld Z h a1 "com/example/sorted_set_patterns/sortedsetpatterns/Field" "order" "Lcom/example/sorted_set_patterns/sortedsetpatterns/Field$Order;" (.ref wo)) ({ frames := 4, cells := 4, slots := 44, locals := 110 } : Room).cells ({ frames := 4, cells := 4, slots := 44, locals := 110 } : Room).slots)) ?_
  refine own_back (fun t k => castTop (f6_ef m a1 a2 q1 q2 wo p7) k) ?_
  show OwnGo p e below (s₁.setTop (mkF m 0 #[.val (.ref a1), .val (.ref a2), .val (.long q1), .second, .val (.long q2), .second, .val (.ref wo), .val (.int p7)] [])) _
  refine own_back (fun t k => XS.aloadN X0.here hx rfl (hb hby f6_d0) rfl rfl k) ?_
  show OwnGo p e below (s₁.setTop (mkF m 1 #[.val (.ref a1), .val (.ref a2), .val (.long q1), .second, .val (.long q2), .second, .val (.ref wo), .val (.int p7)] [(.ref a1)])) _
  obtain ⟨T122, X122, e122, st122⟩ := initO X0 hx hZ hown (hw _ (List.mem_of_getElem? (i := 29) rfl)) (hw _ (List.mem_of_getElem? (i := 30) rfl)) (hw _ (List.mem_of_getElem? (i := 31) rfl)) e0 (g := (mkF m 1 #[.val (.ref a1), .val (.ref a2), .val (.long q1), .second, .val (.long q2), .second, .val (.ref wo), .val (.int p7)] [(.ref a1)])) rfl (by rw [hml]; rfl) rfl (hb hby f6_d1) (by decide) (W := 0) (by show 2 * 0 + _ ≤ _; exact Nat.le_of_eq rfl) (by decide)
  refine own_back st122 ?_
  show OwnGo p e below (T122.setTop (mkF m 4 #[.val (.ref a1), .val (.ref a2), .val (.long q1), .second, .val (.long q2), .second, .val (.ref wo), .val (.int p7)] [])) _
  refine own_back (fun t k => XS.aloadN X122.here hx rfl (hb hby f6_d4) rfl rfl k) ?_
  show OwnGo p e below (T122.setTop (mkF m 5 #[.val (.ref a1), .val (.ref a2), .val (.long q1), .second, .val (.long q2), .second, .val (.ref wo), .val (.int p7)] [(.ref a1)])) _
  obtain ⟨a123, T123, h123, k1123, X123, e123, E123, hS123, hk123, hZ123, hown123, CRl123, hLit123, st123⟩ := ldcOH X122 hx hZ hown (hw _ (List.mem_of_getElem? (i := 32) rfl)) (own_wS hw) e122 hS0 hk0 hEL CR0.1 (g := (mkF m 5 #[.val (.ref a1), .val (.ref a2), .val (.long q1), .second, .val (.long q2), .second, .val (.ref wo), .val (.int p7)] [(.ref a1)])) rfl (hb hby f6_d5) (n := 16) (Nat.le_of_ble_eq_true rfl) (by decide) (Nat.le_of_ble_eq_true rfl) (Nat.le_of_ble_eq_true rfl)
  have O124 := OL.ext E123
  have KP125 := KP0.ext E123
  have Zs126 := Nat.le_trans Z0 E123.1
  have CR127 := CR0.trans CRl123
  have f128 := E1.ext E123
  have f129 := G0.ext E123
  have f130 := G1.ext E123
  have f131 := G2.ext E123
  have f132 := G3.ext E123
  have f133 := G4.ext E123
  have f134 := B2.ext E123
  refine own_back st123 ?_
  show OwnGo p e below (T123.setTop (mkF m 7 #[.val (.ref a1), .val (.ref a2), .val (.long q1), .second, .val (.long q2), .second, .val (.ref wo), .val (.int p7)] [(.ref a123), (.ref a1)])) _
  refine own_back (fun t k => XS.aloadN X123.here hx rfl (hb hby f6_d7) rfl rfl k) ?_
  show OwnGo p e below (T123.setTop (mkF m 8 #[.val (.ref a1), .val (.ref a2), .val (.long q1), .second, .val (.long q2), .second, .val (.ref wo), .val (.int p7)] [(.ref a2), (.ref a123), (.ref a1)])) _
  obtain ⟨_, _, ⟨T135, L135, k135, n135⟩, -, X135, ⟨Lc135, hQ135, l135, y135, z135⟩, st135⟩ := Jvm.LawKit.callS X123 hx (y := (⟨"com/example/sorted_set_patterns/sortedsetpatterns/Utf8", "checked", "(Ljava/lang/String;Ljava/lang/String;)Ljava/lang/String;"⟩ : MethodName)) hown123 (mvT hZ123 (hw _ (List.mem_of_getElem? (i := 33) rfl))) (mvT hZ123 (hw _ (List.mem_of_getElem? (i := 34) rfl))) (mvT hZ123 (hw _ (List.mem_of_getElem? (i := 35) rfl))) (mvT hZ123 (hw _ (List.mem_of_getElem? (i := 36) rfl))) (by decide) (own_backN (W := 1) (rm_chk l Z a0 hw [] a123 a2 y cz fm h123 n0 Zs126 O124 f134 SC hcz SO hfm) hZ123 (hw _ (List.mem_of_getElem? (i := 36) rfl)) (hw _ (List.mem_of_getElem? (i := 35) rfl)) (by decide) (by decide)) (g := (mkF m 8 #[.val (.ref a1), .val (.ref a2), .val (.long q1), .second, .val (.long q2), .second, .val (.ref wo), .val (.int p7)] [(.ref a2), (.ref a123), (.ref a1)])) rfl (by rw [hml]; rfl) (argsL := [(.ref a123), (.ref a2)]) (rest := [(.ref a1)]) (lenOf f6_pd0 rfl) rfl (by show 2 * 0 + _ ≤ _; exact Nat.le_of_eq rfl) (hb hby f6_d8) (fun _ _ => ⟨rfl, e123, Nat.le_of_ble_eq_true rfl, Nat.le_of_ble_eq_true rfl⟩)
  dsimp only [Pt.U, Pt.locs, Pt.cells, Pt.slots] at X135 l135 y135 z135 st135 hQ135
  subst l135 y135 z135
  obtain ⟨rfl, N135q, hh135⟩ := hQ135
  refine own_back st135 ?_
  have N135 := Fr.app N0 N135q
  show OwnGo p e below (T135.setTop (mkF m 11 #[.val (.ref a1), .val (.ref a2), .val (.long q1), .second, .val (.long q2), .second, .val (.ref wo), .val (.int p7)] [(.ref a2), (.ref a1)])) _
  obtain ⟨T136, h136, X136, e136, W136, st136⟩ := putF X135 hx hZ123 hown123 (host := "") (Or.inl (hw _ (List.mem_of_getElem? (i := 78) rfl))) Via.refl hh135 f129 f128 (Or.inr ⟨(hw _ (List.mem_of_getElem? (i := 79) rfl)), rfl, hnm⟩) (hw _ (List.mem_of_getElem? (i := 22) rfl)) (ty := (.object "java/lang/String")) (by decide) rfl rfl (g := (mkF m 11 #[.val (.ref a1), .val (.ref a2), .val (.long q1), .second, .val (.long q2), .second, .val (.ref wo), .val (.int p7)] [(.ref a2), (.ref a1)])) rfl rfl (hb hby f6_d11)
  have O137 := O124.wr W136 ga1
  have KP138 := KP125.wr W136 (Or.inl (List.mem_of_getElem? (i := 0) rfl))
  have Zs139 := Nat.le_trans Zs126 (Keep.of_wr W136).1
  have CR140 := CR127.trans (CHr.wr W136 (Safe.exa hZ123.alike f128 (by decide) (by decide)) CR127.1)
  have hk141 := Nat.le_trans hk123 (Keep.of_wr W136).1
  have f142 := f128.wr W136
  have f143 := f130.other W136 (Or.inr (slot_ne (Or.inr (hw _ (List.mem_of_getElem? (i := 81) rfl))) (Or.inr (hw _ (List.mem_of_getElem? (i := 79) rfl))) (by decide) (t := .long) (t' := (.object "java/lang/String")) (by decide) (by decide)))
  have f144 := f131.other W136 (Or.inr (slot_ne (Or.inr (hw _ (List.mem_of_getElem? (i := 83) rfl))) (Or.inr (hw _ (List.mem_of_getElem? (i := 79) rfl))) (by decide) (t := .long) (t' := (.object "java/lang/String")) (by decide) (by decide)))
  have f145 := f132.other W136 (Or.inr (slot_ne (Or.inr (hw _ (List.mem_of_getElem? (i := 89) rfl))) (Or.inr (hw _ (List.mem_of_getElem? (i := 79) rfl))) (by decide) (t := (.object "com/example/sorted_set_patterns/sortedsetpatterns/Field$Order")) (t' := (.object "java/lang/String")) (by decide) (by decide)))
  have f146 := f133.other W136 (Or.inr (slot_ne (Or.inr (hw _ (List.mem_of_getElem? (i := 91) rfl))) (Or.inr (hw _ (List.mem_of_getElem? (i := 79) rfl))) (by decide) (t := .boolean) (t' := (.object "java/lang/String")) (by decide) (by decide)))
  have f147 := (OwnStr.wrE W136 f128 (by decide) (hw _ (List.mem_of_getElem? (i := 22) rfl)) f134)
  have F148 := f129.same W136
  have N149 := Fr.snoc X136 N135 ga1
  refine own_back st136 ?_
  show OwnGo p e below (T136.setTop (mkF m 14 #[.val (.ref a1), .val (.ref a2), .val (.long q1), .second, .val (.long q2), .second, .val (.ref wo), .val (.int p7)] [])) _
  refine own_back (fun t k => XS.aloadN X136.here hx rfl (hb hby f6_d14) rfl rfl k) ?_
  show OwnGo p e below (T136.setTop (mkF m 15 #[.val (.ref a1), .val (.ref a2), .val (.long q1), .second, .val (.long q2), .second, .val (.ref wo), .val (.int p7)] [(.ref a1)])) _
  refine own_back (fun t k => XS.lloadN X136.here hx rfl (hb hby f6_d15) rfl k) ?_
  show OwnGo p e below (T136.setTop (mkF m 16 #[.val (.ref a1), .val (.ref a2), .val (.long q1), .second, .val (.long q2), .second, .val (.ref wo), .val (.int p7)] [(.long q1), (.ref a1)])) _
  obtain ⟨T150, h150, X150, e150, W150, st150⟩ := putF X136 hx hZ123 hown123 (host := "") (Or.inl (hw _ (List.mem_of_getElem? (i := 80) rfl))) Via.refl e136 f143 f142 (Or.inr ⟨(hw _ (List.mem_of_getElem? (i := 81) rfl)), rfl, hnm⟩) (hw _ (List.mem_of_getElem? (i := 22) rfl)) (ty := .long) (by decide) rfl rfl (g := (mkF m 16 #[.val (.ref a1), .val (.ref a2), .val (.long q1), .second, .val (.long q2), .second, .val (.ref wo), .val (.int p7)] [(.long q1), (.ref a1)])) rfl rfl (hb hby f6_d16)
  have O151 := O137.wr W150 ga1
  have KP152 := KP138.wr W150 (Or.inl (List.mem_of_getElem? (i := 0) rfl))
  have Zs153 := Nat.le_trans Zs139 (Keep.of_wr W150).1
  have CR154 := CR140.trans (CHr.wr W150 (Safe.exa hZ123.alike f142 (by decide) (by decide)) CR140.1)
  have hk155 := Nat.le_trans hk141 (Keep.of_wr W150).1
  have f156 := f142.wr W150
  have f157 := f144.other W150 (Or.inr (slot_ne (Or.inr (hw _ (List.mem_of_getElem? (i := 83) rfl))) (Or.inr (hw _ (List.mem_of_getElem? (i := 81) rfl))) (by decide) (t := .long) (t' := .long) (by decide) (by decide)))
  have f158 := f145.other W150 (Or.inr (slot_ne (Or.inr (hw _ (List.mem_of_getElem? (i := 89) rfl))) (Or.inr (hw _ (List.mem_of_getElem? (i := 81) rfl))) (by decide) (t := (.object "com/example/sorted_set_patterns/sortedsetpatterns/Field$Order")) (t' := .long) (by decide) (by decide)))
  have f159 := f146.other W150 (Or.inr (slot_ne (Or.inr (hw _ (List.mem_of_getElem? (i := 91) rfl))) (Or.inr (hw _ (List.mem_of_getElem? (i := 81) rfl))) (by decide) (t := .boolean) (t' := .long) (by decide) (by decide)))
  have f160 := (OwnStr.wrE W150 f142 (by decide) (hw _ (List.mem_of_getElem? (i := 22) rfl)) f147)
  have f161 := F148.other W150 (Or.inr (slot_ne (Or.inr (hw _ (List.mem_of_getElem? (i := 79) rfl))) (Or.inr (hw _ (List.mem_of_getElem? (i := 81) rfl))) (by decide) (t := (.object "java/lang/String")) (t' := .long) (by decide) (by decide)))
  have F162 := f143.same W150
  have N163 := Fr.snoc X150 N149 ga1
  refine own_back st150 ?_
  show OwnGo p e below (T150.setTop (mkF m 19 #[.val (.ref a1), .val (.ref a2), .val (.long q1), .second, .val (.long q2), .second, .val (.ref wo), .val (.int p7)] [])) _
  refine own_back (fun t k => XS.aloadN X150.here hx rfl (hb hby f6_d19) rfl rfl k) ?_
  show OwnGo p e below (T150.setTop (mkF m 20 #[.val (.ref a1), .val (.ref a2), .val (.long q1), .second, .val (.long q2), .second, .val (.ref wo), .val (.int p7)] [(.ref a1)])) _
  refine own_back (fun t k => XS.lload X150.here hx rfl (hb hby f6_d20) rfl k) ?_
  show OwnGo p e below (T150.setTop (mkF m 22 #[.val (.ref a1), .val (.ref a2), .val (.long q1), .second, .val (.long q2), .second, .val (.ref wo), .val (.int p7)] [(.long q2), (.ref a1)])) _
  obtain ⟨T164, h164, X164, e164, W164, st164⟩ := putF X150 hx hZ123 hown123 (host := "") (Or.inl (hw _ (List.mem_of_getElem? (i := 82) rfl))) Via.refl e150 f157 f156 (Or.inr ⟨(hw _ (List.mem_of_getElem? (i := 83) rfl)), rfl, hnm⟩) (hw _ (List.mem_of_getElem? (i := 22) rfl)) (ty := .long) (by decide) rfl rfl (g := (mkF m 22 #[.val (.ref a1), .val (.ref a2), .val (.long q1), .second, .val (.long q2), .second, .val (.ref wo), .val (.int p7)] [(.long q2), (.ref a1)])) rfl rfl (hb hby f6_d22)
  have O165 := O151.wr W164 ga1
  have KP166 := KP152.wr W164 (Or.inl (List.mem_of_getElem? (i := 0) rfl))
  have Zs167 := Nat.le_trans Zs153 (Keep.of_wr W164).1
  have CR168 := CR154.trans (CHr.wr W164 (Safe.exa hZ123.alike f156 (by decide) (by decide)) CR154.1)
  have hk169 := Nat.le_trans hk155 (Keep.of_wr W164).1
  have f170 := f156.wr W164
  have f171 := f158.other W164 (Or.inr (slot_ne (Or.inr (hw _ (List.mem_of_getElem? (i := 89) rfl))) (Or.inr (hw _ (List.mem_of_getElem? (i := 83) rfl))) (by decide) (t := (.object "com/example/sorted_set_patterns/sortedsetpatterns/Field$Order")) (t' := .long) (by decide) (by decide)))
  have f172 := f159.other W164 (Or.inr (slot_ne (Or.inr (hw _ (List.mem_of_getElem? (i := 91) rfl))) (Or.inr (hw _ (List.mem_of_getElem? (i := 83) rfl))) (by decide) (t := .boolean) (t' := .long) (by decide) (by decide)))
  have f173 := (OwnStr.wrE W164 f156 (by decide) (hw _ (List.mem_of_getElem? (i := 22) rfl)) f160)
  have f174 := f161.other W164 (Or.inr (slot_ne (Or.inr (hw _ (List.mem_of_getElem? (i := 79) rfl))) (Or.inr (hw _ (List.mem_of_getElem? (i := 83) rfl))) (by decide) (t := (.object "java/lang/String")) (t' := .long) (by decide) (by decide)))
  have f175 := F162.other W164 (Or.inr (slot_ne (Or.inr (hw _ (List.mem_of_getElem? (i := 81) rfl))) (Or.inr (hw _ (List.mem_of_getElem? (i := 83) rfl))) (by decide) (t := .long) (t' := .long) (by decide) (by decide)))
  have F176 := f157.same W164
  have N177 := Fr.snoc X164 N163 ga1
  refine own_back st164 ?_
  show OwnGo p e below (T164.setTop (mkF m 25 #[.val (.ref a1), .val (.ref a2), .val (.long q1), .second, .val (.long q2), .second, .val (.ref wo), .val (.int p7)] [])) _
  refine own_back (fun t k => XS.aloadN X164.here hx rfl (hb hby f6_d25) rfl rfl k) ?_
  show OwnGo p e below (T164.setTop (mkF m 26 #[.val (.ref a1), .val (.ref a2), .val (.long q1), .second, .val (.long q2), .second, .val (.ref wo), .val (.int p7)] [(.ref a1)])) _
  refine own_back (fun t k => XS.aload X164.here hx rfl (hb hby f6_d26) rfl rfl k) ?_
  show OwnGo p e below (T164.setTop (mkF m 28 #[.val (.ref a1), .val (.ref a2), .val (.long q1), .second, .val (.long q2), .second, .val (.ref wo), .val (.int p7)] [(.ref wo), (.ref a1)])) _
  obtain ⟨a178, T178, h178, k1178, X178, e178, E178, hS178, hk178, hZ178, hown178, CRl178, hLit178, st178⟩ := ldcOH X164 hx hZ123 hown123 (hw _ (List.mem_of_getElem? (i := 84) rfl)) (own_wS hw) e164 hS123 hk169 hEL CR168.1 (g := (mkF m 28 #[.val (.ref a1), .val (.ref a2), .val (.long q1), .second, .val (.long q2), .second, .val (.ref wo), .val (.int p7)] [(.ref wo), (.ref a1)])) rfl (hb hby f6_d28) (n := 20) (Nat.le_of_ble_eq_true rfl) (by decide) (Nat.le_of_ble_eq_true rfl) (Nat.le_of_ble_eq_true rfl)
  have O179 := O165.ext E178
  have KP180 := KP166.ext E178
  have Zs181 := Nat.le_trans Zs167 E178.1
  have CR182 := CR168.trans CRl178
  have f183 := f170.ext E178
  have f184 := f171.ext E178
  have f185 := f172.ext E178
  have f186 := f173.ext E178
  have f187 := f174.ext E178
  have f188 := f175.ext E178
  have f189 := F176.ext E178
  refine own_back st178 ?_
  show OwnGo p e below (T178.setTop (mkF m 30 #[.val (.ref a1), .val (.ref a2), .val (.long q1), .second, .val (.long q2), .second, .val (.ref wo), .val (.int p7)] [(.ref a178), (.ref wo), (.ref a1)])) _
  obtain ⟨_, _, ⟨T190, L190, k190, n190⟩, -, X190, ⟨Lc190, hQ190, l190, y190, z190⟩, st190⟩ := Jvm.LawKit.callS X178 hx (y := (⟨"java/util/Objects", "requireNonNull", "(Ljava/lang/Object;Ljava/lang/String;)Ljava/lang/Object;"⟩ : MethodName)) hown178 (mvT hZ178 (hw _ (List.mem_of_getElem? (i := 85) rfl))) (mvT hZ178 (hw _ (List.mem_of_getElem? (i := 38) rfl))) (mvT hZ178 (hw _ (List.mem_of_getElem? (i := 39) rfl))) (mvT hZ178 (hw _ (List.mem_of_getElem? (i := 40) rfl))) (by decide) (own_backN (W := 1) (rm_rnn l Z a0 hw [] wo a178 h178 n0 Zs181) hZ178 (hw _ (List.mem_of_getElem? (i := 40) rfl)) (hw _ (List.mem_of_getElem? (i := 39) rfl)) (by decide) (by decide)) (g := (mkF m 30 #[.val (.ref a1), .val (.ref a2), .val (.long q1), .second, .val (.long q2), .second, .val (.ref wo), .val (.int p7)] [(.ref a178), (.ref wo), (.ref a1)])) rfl (by rw [hml]; rfl) (argsL := [(.ref wo), (.ref a178)]) (rest := [(.ref a1)]) (lenOf f6_pd1 rfl) rfl (by show 2 * 0 + _ ≤ _; exact Nat.le_of_eq rfl) (hb hby f6_d30) (fun _ _ => ⟨rfl, e178, Nat.le_of_ble_eq_true rfl, Nat.le_of_ble_eq_true rfl⟩)
  dsimp only [Pt.U, Pt.locs, Pt.cells, Pt.slots] at X190 l190 y190 z190 st190 hQ190
  subst l190 y190 z190
  obtain ⟨rfl, N190q, hh190⟩ := hQ190
  refine own_back st190 ?_
  have N190 := Fr.app N177 N190q
  show OwnGo p e below (T190.setTop (mkF m 33 #[.val (.ref a1), .val (.ref a2), .val (.long q1), .second, .val (.long q2), .second, .val (.ref wo), .val (.int p7)] [(.ref wo), (.ref a1)])) _
  obtain ⟨T191, X191, e191, st191⟩ := castY X190 hx hZ178 hown178 (hw _ (List.mem_of_getElem? (i := 86) rfl)) hh190 (Ins.self (EO.ext O179.2)) (g := (mkF m 33 #[.val (.ref a1), .val (.ref a2), .val (.long q1), .second, .val (.long q2), .second, .val (.ref wo), .val (.int p7)] [(.ref wo), (.ref a1)])) rfl rfl (hb hby f6_d33)
  refine own_back st191 ?_
  show OwnGo p e below (T191.setTop (mkF m 36 #[.val (.ref a1), .val (.ref a2), .val (.long q1), .second, .val (.long q2), .second, .val (.ref wo), .val (.int p7)] [(.ref wo), (.ref a1)])) _
  obtain ⟨T192, h192, X192, e192, W192, st192⟩ := putF X191 hx hZ178 hown178 (host := "") (Or.inl (hw _ (List.mem_of_getElem? (i := 88) rfl))) Via.refl e191 f184 f183 (Or.inr ⟨(hw _ (List.mem_of_getElem? (i := 89) rfl)), rfl, hnm⟩) (hw _ (List.mem_of_getElem? (i := 22) rfl)) (ty := (.object "com/example/sorted_set_patterns/sortedsetpatterns/Field$Order")) (by decide) rfl rfl (g := (mkF m 36 #[.val (.ref a1), .val (.ref a2), .val (.long q1), .second, .val (.long q2), .second, .val (.ref wo), .val (.int p7)] [(.ref wo), (.ref a1)])) rfl rfl (hb hby f6_d36)
  have O193 := O179.wr W192 ga1
  have KP194 := KP180.wr W192 (Or.inl (List.mem_of_getElem? (i := 0) rfl))
  have Zs195 := Nat.le_trans Zs181 (Keep.of_wr W192).1
  have CR196 := CR182.trans (CHr.wr W192 (Safe.exa hZ178.alike f183 (by decide) (by decide)) CR182.1)
  have hk197 := Nat.le_trans hk178 (Keep.of_wr W192).1
  have f198 := f183.wr W192
  have f199 := f185.other W192 (Or.inr (slot_ne (Or.inr (hw _ (List.mem_of_getElem? (i := 91) rfl))) (Or.inr (hw _ (List.mem_of_getElem? (i := 89) rfl))) (by decide) (t := .boolean) (t' := (.object "com/example/sorted_set_patterns/sortedsetpatterns/Field$Order")) (by decide) (by decide)))
  have f200 := (OwnStr.wrE W192 f183 (by decide) (hw _ (List.mem_of_getElem? (i := 22) rfl)) f186)
  have f201 := f187.other W192 (Or.inr (slot_ne (Or.inr (hw _ (List.mem_of_getElem? (i := 79) rfl))) (Or.inr (hw _ (List.mem_of_getElem? (i := 89) rfl))) (by decide) (t := (.object "java/lang/String")) (t' := (.object "com/example/sorted_set_patterns/sortedsetpatterns/Field$Order")) (by decide) (by decide)))
  have f202 := f188.other W192 (Or.inr (slot_ne (Or.inr (hw _ (List.mem_of_getElem? (i := 81) rfl))) (Or.inr (hw _ (List.mem_of_getElem? (i := 89) rfl))) (by decide) (t := .long) (t' := (.object "com/example/sorted_set_patterns/sortedsetpatterns/Field$Order")) (by decide) (by decide)))
  have f203 := f189.other W192 (Or.inr (slot_ne (Or.inr (hw _ (List.mem_of_getElem? (i := 83) rfl))) (Or.inr (hw _ (List.mem_of_getElem? (i := 89) rfl))) (by decide) (t := .long) (t' := (.object "com/example/sorted_set_patterns/sortedsetpatterns/Field$Order")) (by decide) (by decide)))
  have F204 := f184.same W192
  have N205 := Fr.snoc X192 N190 ga1
  refine own_back st192 ?_
  show OwnGo p e below (T192.setTop (mkF m 39 #[.val (.ref a1), .val (.ref a2), .val (.long q1), .second, .val (.long q2), .second, .val (.ref wo), .val (.int p7)] [])) _
  refine own_back (fun t k => XS.aloadN X192.here hx rfl (hb hby f6_d39) rfl rfl k) ?_
  show OwnGo p e below (T192.setTop (mkF m 40 #[.val (.ref a1), .val (.ref a2), .val (.long q1), .second, .val (.long q2), .second, .val (.ref wo), .val (.int p7)] [(.ref a1)])) _
  refine own_back (fun t k => XS.iload X192.here hx rfl (hb hby f6_d40) rfl k) ?_
  show OwnGo p e below (T192.setTop (mkF m 42 #[.val (.ref a1), .val (.ref a2), .val (.long q1), .second, .val (.long q2), .second, .val (.ref wo), .val (.int p7)] [(.int p7), (.ref a1)])) _
  obtain ⟨T206, h206, X206, e206, W206, st206⟩ := putFN X192 hx hZ178 hown178 (hw _ (List.mem_of_getElem? (i := 90) rfl)) Via.refl e192 f199 f198 (Or.inr ⟨(hw _ (List.mem_of_getElem? (i := 91) rfl)), rfl, hnm⟩) (hw _ (List.mem_of_getElem? (i := 22) rfl)) (ty := .boolean) (v' := (.int (nar .boolean p7))) (by decide) rfl (fits_nar_bool _) (g := (mkF m 42 #[.val (.ref a1), .val (.ref a2), .val (.long q1), .second, .val (.long q2), .second, .val (.ref wo), .val (.int p7)] [(.int p7), (.ref a1)])) rfl rfl (hb hby f6_d42)
  have O207 := O193.wr W206 ga1
  have KP208 := KP194.wr W206 (Or.inl (List.mem_of_getElem? (i := 0) rfl))
  have Zs209 := Nat.le_trans Zs195 (Keep.of_wr W206).1
  have CR210 := CR196.trans (CHr.wr W206 (Safe.exa hZ178.alike f198 (by decide) (by decide)) CR196.1)
  have hk211 := Nat.le_trans hk197 (Keep.of_wr W206).1
  have f212 := f198.wr W206
  have f213 := (OwnStr.wrE W206 f198 (by decide) (hw _ (List.mem_of_getElem? (i := 22) rfl)) f200)
  have f214 := f201.other W206 (Or.inr (slot_ne (Or.inr (hw _ (List.mem_of_getElem? (i := 79) rfl))) (Or.inr (hw _ (List.mem_of_getElem? (i := 91) rfl))) (by decide) (t := (.object "java/lang/String")) (t' := .boolean) (by decide) (by decide)))
  have f215 := f202.other W206 (Or.inr (slot_ne (Or.inr (hw _ (List.mem_of_getElem? (i := 81) rfl))) (Or.inr (hw _ (List.mem_of_getElem? (i := 91) rfl))) (by decide) (t := .long) (t' := .boolean) (by decide) (by decide)))
  have f216 := f203.other W206 (Or.inr (slot_ne (Or.inr (hw _ (List.mem_of_getElem? (i := 83) rfl))) (Or.inr (hw _ (List.mem_of_getElem? (i := 91) rfl))) (by decide) (t := .long) (t' := .boolean) (by decide) (by decide)))
  have f217 := F204.other W206 (Or.inr (slot_ne (Or.inr (hw _ (List.mem_of_getElem? (i := 89) rfl))) (Or.inr (hw _ (List.mem_of_getElem? (i := 91) rfl))) (by decide) (t := (.object "com/example/sorted_set_patterns/sortedsetpatterns/Field$Order")) (t' := .boolean) (by decide) (by decide)))
  have F218 := f199.same W206
  have N219 := Fr.snoc X206 N205 ga1
  refine own_back st206 ?_
  show OwnGo p e below (T206.setTop (mkF m 45 #[.val (.ref a1), .val (.ref a2), .val (.long q1), .second, .val (.long q2), .second, .val (.ref wo), .val (.int p7)] [])) _
  refine own_retVW X206 hx Bd.notSynchronized Bd.returns hS178 hk211 hZ178 hEL (hh ▸ CR210) (hb hby f6_d45) e206 (Nat.le_of_ble_eq_true rfl) (Nat.le_of_ble_eq_true rfl) ?_
  exact ⟨rfl, N219, KP208, f215, f216, f217⟩
theorem f3_d0 : decode prog_1_method_1_code 0 = .ok (.aload_n 0, 1) := by decide +kernel
theorem f3_d1 : decode prog_1_method_1_code 1 = .ok (.aload_n 1, 1) := by decide +kernel
theorem f3_d2 : decode prog_1_method_1_code 2 = .ok (.lconst 0, 1) := by decide +kernel
theorem f3_d3 : decode prog_1_method_1_code 3 = .ok (.lload_n 2, 1) := by decide +kernel
theorem f3_d4 : decode prog_1_method_1_code 4 = .ok (.aload 4, 2) := by decide +kernel
theorem f3_d6 : decode prog_1_method_1_code 6 = .ok (.iconst 0, 1) := by decide +kernel
theorem f3_d7 : decode prog_1_method_1_code 7 = .ok (.invokespecial 1, 3) := by decide +kernel
theorem f3_d10 : decode prog_1_method_1_code 10 = .ok (.lload_n 2, 1) := by decide +kernel
theorem f3_d11 : decode prog_1_method_1_code 11 = .ok (.lconst 0, 1) := by decide +kernel
theorem f3_d12 : decode prog_1_method_1_code 12 = .ok (.lcmp, 1) := by decide +kernel
theorem f3_d13 : decode prog_1_method_1_code 13 = .ok (.ifCond .lt 11, 3) := by decide +kernel
theorem f3_d16 : decode prog_1_method_1_code 16 = .ok (.lload_n 2, 1) := by decide +kernel
theorem f3_d17 : decode prog_1_method_1_code 17 = .ok (.ldc2_w 7, 3) := by decide +kernel
theorem f3_d20 : decode prog_1_method_1_code 20 = .ok (.lcmp, 1) := by decide +kernel
theorem f3_d21 : decode prog_1_method_1_code 21 = .ok (.ifCond .lt 18, 3) := by decide +kernel
theorem f3_d39 : decode prog_1_method_1_code 39 = .ok (.return_, 1) := by decide +kernel
theorem f3_pn : plainName "com/example/sorted_set_patterns/sortedsetpatterns/Field" = true := by first | (simp [plainName, overriddenIn]; done) | decide +kernel
theorem f3_pd0 : parseMethodDescriptor "(Ljava/lang/String;JJLcom/example/sorted_set_patterns/sortedsetpatterns/Field$Order;Z)V" = some ⟨[(.object "java/lang/String"), .long, .long, (.object "com/example/sorted_set_patterns/sortedsetpatterns/Field$Order"), .boolean], none⟩ := by decide +kernel
theorem f3_ef (m : MethodId) (x0 : Addr) (x1 : Addr) (x2 : Int64) (x3 : Addr) : entryFrame m #[(.ref x0), (.ref x1), (.long x2), (.ref x3)] 5 = mkF m 0 #[.val (.ref x0), .val (.ref x1), .val (.long x2), .second, .val (.ref x3)] [] := by first | (simp [entryFrame, mkF, argsToLocals, Value.category]; done) | rfl
set_option maxRecDepth 65536 in
set_option maxHeartbeats 40000000 in
theorem rm_f3 (l : Launch) (Z : State) (a0 : Array Value) (hw : ∀ d ∈ tables_1, d.before a0 Z = true) (ws : List Jvm.Cond) (a1 : Addr) (a2 : Addr) (y : Int32) (q2 : Int64) (wo : Addr) (g0 : Value) (g1 : Value) (g2 : Value) (g3 : Value) (g4 : Value) (cz : Int32) (fm : Value) (h0 : Heap) (n0 : Nat) (Z0 : n0 ≤ h0.size) (OL : Old Z n0 h0) (E1 : Exa Z h0 a1 "com/example/sorted_set_patterns/sortedsetpatterns/Field") (G0 : Fld Z h0 a1 "com/example/sorted_set_patterns/sortedsetpatterns/Field" "name" "Ljava/lang/String;" g0) (G1 : Fld Z h0 a1 "com/example/sorted_set_patterns/sortedsetpatterns/Field" "min" "J" g1) (G2 : Fld Z h0 a1 "com/example/sorted_set_patterns/sortedsetpatterns/Field" "max" "J" g2) (G3 : Fld Z h0 a1 "com/example/sorted_set_patterns/sortedsetpatterns/Field" "order" "Lcom/example/sorted_set_patterns/sortedsetpatterns/Field$Order;" g3) (G4 : Fld Z h0 a1 "com/example/sorted_set_patterns/sortedsetpatterns/Field" "instant" "Z" g4) (ga1 : n0 ≤ a1) (B2 : OwnStr Z h0 a2 [y]) (EO : Exa Z Z.heap wo "com/example/sorted_set_patterns/sortedsetpatterns/Field$Order") (SC : Sta Z Z.heap "java/lang/String" "COMPACT_STRINGS" "Z" (.int cz)) (hcz : ¬ cz = 0) (SO : Sta Z Z.heap "jdk/internal/util/Preconditions" "SIOOBE_FORMATTER" "Ljava/util/function/BiFunction;" fm) (hfm : fm.isRef = true) (hq0 : ¬ q2 < 0) (hq1 : q2 < (9007199254740992 : Int64)) :
    MetFree l (⟨"com/example/sorted_set_patterns/sortedsetpatterns/Field", "<init>", "(Ljava/lang/String;JLcom/example/sorted_set_patterns/sortedsetpatterns/Field$Order;)V"⟩ : MethodName) (head1 (Jvm.Cond.code (⟨"com/example/sorted_set_patterns/sortedsetpatterns/Field", "<init>", "(Ljava/lang/String;JLcom/example/sorted_set_patterns/sortedsetpatterns/Field$Order;)V"⟩ : MethodName) prog_1_method_1_code 5 none :: ws) ({ frames := 5, cells := 4, slots := 44, locals := 140 } : Room)) (fun a U => a = #[(.ref a1), (.ref a2), (.long q2), (.ref wo)] ∧ Z.Warmed39 U.vm ∧ U.heap = h0 ∧ CHv Z own_EL U.vm h0 ∧ ∀ x ∈ ([] : List Addr), Safe Z own_EL U.vm h0 x) (fun _ _ _ _ _ => True) (fun _ U o U' => OwnEndW Z own_EL U (fun v h L => v = none ∧ Fr n0 L ∧ Keep h0 h [a1] ∧ Fld Z h a1 "com/example/sorted_set_patterns/sortedsetpatterns/Field" "min" "J" (.long (0 : Int64)) ∧ Fld Z h a1 "com/example/sorted_set_patterns/sortedsetpatterns/Field" "max" "J" (.long q2) ∧ Fld Z h a1 "com/example/sorted_set_patterns/sortedsetpatterns/Field" "order" "Lcom/example/sorted_set_patterns/sortedsetpatterns/Field$Order;" (.ref wo)) ({ frames := 5, cells := 4, slots := 44, locals := 140 } : Room).cells ({ frames := 5, cells := 4, slots := 44, locals := 140 } : Room).slots o U') := by
  refine MetFree.of_bodySF (plainFor_of_name f3_pn) hisR ?_
  intro p e s m args below meth c s₁ Bd hml0 hP hK
  obtain ⟨rfl, hZ, hh, hCH, hSL⟩ := hP
  have hx := Bd.exec
  have hby := Bd.bytes
  have hml : c.maxLocals = 5 := hml0
  have hown : s.vm.findClass "com/example/sorted_set_patterns/sortedsetpatterns/Field" = some m.cls := findClass_of_methodNamed Bd.named
  have hnm := (name_of_methodNamed Bd.named Bd.method).1
  have X0 : Stand p l e ({ frames := 5, cells := 4, slots := 44, locals := 140 } : Room) (s.setVm s.vm) m #[(.ref a1), (.ref a2), (.long q2), (.ref wo)] below meth c s₁ [] 0 0 := Stand.of_body Bd
  have e0 : s₁.heap = h0 := by rw [← hh, Bd.state]; rfl
  have N0 := Fr.nil n0
  have KP0 := Keep.refl h0 [a1]
  have hown : (s.setVm s.vm).vm.findClass "com/example/sorted_set_patterns/sortedsetpatterns/Field" = some m.cls := hown
  have hZ : Z.Warmed39 (s.setVm s.vm).vm := hZ
  have hS0 : s.Since s.vm 0 := (State.WarmedH.refl s).since 0
  have hk0 : 0 ≤ h0.size := Nat.zero_le _
  have CR0 : CHr Z own_EL s.vm h0 s.vm h0 := CHr.refl hCH
  have hEL := own_EW hw
  refine own_go (Q := (OwnEndW Z own_EL s (fun v h L => v = none ∧ Fr n0 L ∧ Keep h0 h [a1] ∧ Fld Z h a1 "com/example/sorted_set_patterns/sortedsetpatterns/Field" "min" "J" (.long (0 : Int64)) ∧ Fld Z h a1 "com/example/sorted_set_patterns/sortedsetpatterns/Field" "max" "J" (.long q2) ∧ Fld Z h a1 "com/example/sorted_set_patterns/sortedsetpatterns/Field" "order" "Lcom/example/sorted_set_patterns/sortedsetpatterns/Field$Order;" (.ref wo)) ({ frames := 5, cells := 4, slots := 44, locals := 140 } : Room).cells ({ frames := 5, cells := 4, slots := 44, locals := 140 } : Room).slots)) ?_
  refine own_back (fun t k => castTop (f3_ef m a1 a2 q2 wo) k) ?_
  show OwnGo p e below (s₁.setTop (mkF m 0 #[.val (.ref a1), .val (.ref a2), .val (.long q2), .second, .val (.ref wo)] [])) _
  refine own_back (fun t k => XS.aloadN X0.here hx rfl (hb hby f3_d0) rfl rfl k) ?_
  show OwnGo p e below (s₁.setTop (mkF m 1 #[.val (.ref a1), .val (.ref a2), .val (.long q2), .second, .val (.ref wo)] [(.ref a1)])) _
  refine own_back (fun t k => XS.aloadN X0.here hx rfl (hb hby f3_d1) rfl rfl k) ?_
  show OwnGo p e below (s₁.setTop (mkF m 2 #[.val (.ref a1), .val (.ref a2), .val (.long q2), .second, .val (.ref wo)] [(.ref a2), (.ref a1)])) _
  refine own_back (fun t k => XS.lconst X0.here hx rfl (hb hby f3_d2) k) ?_
  show OwnGo p e below (s₁.setTop (mkF m 3 #[.val (.ref a1), .val (.ref a2), .val (.long q2), .second, .val (.ref wo)] [(.long (0 : Int64)), (.ref a2), (.ref a1)])) _
  refine own_back (fun t k => XS.lloadN X0.here hx rfl (hb hby f3_d3) rfl k) ?_
  show OwnGo p e below (s₁.setTop (mkF m 4 #[.val (.ref a1), .val (.ref a2), .val (.long q2), .second, .val (.ref wo)] [(.long q2), (.long (0 : Int64)), (.ref a2), (.ref a1)])) _
  refine own_back (fun t k => XS.aload X0.here hx rfl (hb hby f3_d4) rfl rfl k) ?_
  show OwnGo p e below (s₁.setTop (mkF m 6 #[.val (.ref a1), .val (.ref a2), .val (.long q2), .second, .val (.ref wo)] [(.ref wo), (.long q2), (.long (0 : Int64)), (.ref a2), (.ref a1)])) _
  refine own_back (fun t k => XS.iconst X0.here hx rfl (hb hby f3_d6) k) ?_
  show OwnGo p e below (s₁.setTop (mkF m 7 #[.val (.ref a1), .val (.ref a2), .val (.long q2), .second, .val (.ref wo)] [(.int (0 : Int32)), (.ref wo), (.long q2), (.long (0 : Int64)), (.ref a2), (.ref a1)])) _
  obtain ⟨_, _, ⟨T220, L220, k220, n220⟩, -, X220, hSn220, hgr220, ⟨Lc220, hQ220, l220, y220, z220, CRn220⟩, st220⟩ := X0.specialBackS hx (y := (⟨"com/example/sorted_set_patterns/sortedsetpatterns/Field", "<init>", "(Ljava/lang/String;JJLcom/example/sorted_set_patterns/sortedsetpatterns/Field$Order;Z)V"⟩ : MethodName)) rfl hown (mvT hZ (hw _ (List.mem_of_getElem? (i := 26) rfl))) (mvT hZ (hw _ (List.mem_of_getElem? (i := 27) rfl))) (mvT hZ (hw _ (List.mem_of_getElem? (i := 28) rfl))) (by decide) (own_backH (W := 0) (rm_f6 l Z a0 hw [] a1 a2 y (0 : Int64) q2 wo (0 : Int32) g0 g1 g2 g3 g4 cz fm h0 n0 Z0 OL E1 G0 G1 G2 G3 G4 ga1 B2 EO SC hcz SO hfm) hZ (hw _ (List.mem_of_getElem? (i := 28) rfl)) (hw _ (List.mem_of_getElem? (i := 17) rfl)) (by decide) (by decide) hEL CR0.1 sf0 all0) (g := (mkF m 7 #[.val (.ref a1), .val (.ref a2), .val (.long q2), .second, .val (.ref wo)] [(.int (0 : Int32)), (.ref wo), (.long q2), (.long (0 : Int64)), (.ref a2), (.ref a1)])) rfl (by rw [hml]; rfl) (Steps.refl _) (a := a1) (argsL := [(.ref a2), (.long (0 : Int64)), (.long q2), (.ref wo), (.int (0 : Int32))]) (rest := []) (lenOf f3_pd0 rfl) rfl (by show 2 * 0 + _ ≤ _; exact Nat.le_of_eq rfl) (hb hby f3_d7) (fun _ _ => ⟨rfl, e0, Nat.le_of_ble_eq_true rfl, Nat.le_of_ble_eq_true rfl⟩)
  dsimp only [Pt.U, Pt.locs, Pt.cells, Pt.slots] at X220 l220 y220 z220 st220 hQ220 hSn220 hgr220 CRn220
  subst l220 y220 z220
  obtain ⟨Xr220, hSr220, hZr220, hownr220⟩ := rebS hS0 (own_hle e0 hk0) X220 hSn220 hgr220 hZ hown
  obtain ⟨rfl, N220q, K220, Fmin220, Fmax220, Ford220⟩ := hQ220
  refine own_seq st220 ?_
  have N220 := Fr.app N0 N220q
  have O221 := OL.keep K220 (allS ga1 all0)
  have KP222 := KP0.trans K220 (allS (Or.inl (List.mem_of_getElem? (i := 0) rfl)) all0)
  have Zs223 := Nat.le_trans Z0 K220.1
  have CR224 := CR0.trans CRn220
  have f225 := E1.keep K220
  have f226 := (OwnStr.keepE K220 E1 (by decide) (hw _ (List.mem_of_getElem? (i := 22) rfl)) B2)
  show OwnGo p e below (T220.setTop (mkF m 10 #[.val (.ref a1), .val (.ref a2), .val (.long q2), .second, .val (.ref wo)] [])) _
  refine own_back (fun t k => XS.lloadN Xr220.here hx rfl (hb hby f3_d10) rfl k) ?_
  show OwnGo p e below (T220.setTop (mkF m 11 #[.val (.ref a1), .val (.ref a2), .val (.long q2), .second, .val (.ref wo)] [(.long q2)])) _
  refine own_back (fun t k => XS.lconst Xr220.here hx rfl (hb hby f3_d11) k) ?_
  show OwnGo p e below (T220.setTop (mkF m 12 #[.val (.ref a1), .val (.ref a2), .val (.long q2), .second, .val (.ref wo)] [(.long (0 : Int64)), (.long q2)])) _
  refine own_back (fun t k => XT.lcmp Xr220.here hx rfl (hb hby f3_d12) rfl k) ?_
  show OwnGo p e below (T220.setTop (mkF m 13 #[.val (.ref a1), .val (.ref a2), .val (.long q2), .second, .val (.ref wo)] [(.int (XT.cmpL q2 (0 : Int64)))])) _
  refine own_back (fun t k => XS.ifNo Xr220.here hx rfl (hb hby f3_d13) rfl (Jvm.Free.XT.ll_lt_f hq0) k) ?_
  show OwnGo p e below (T220.setTop (mkF m 16 #[.val (.ref a1), .val (.ref a2), .val (.long q2), .second, .val (.ref wo)] [])) _
  refine own_back (fun t k => XS.lloadN Xr220.here hx rfl (hb hby f3_d16) rfl k) ?_
  show OwnGo p e below (T220.setTop (mkF m 17 #[.val (.ref a1), .val (.ref a2), .val (.long q2), .second, .val (.ref wo)] [(.long q2)])) _
  refine own_back (fun t k => Xr220.ldc2Long hx hownr220 (mvT hZr220 (hw _ (List.mem_of_getElem? (i := 20) rfl))) (g := (mkF m 17 #[.val (.ref a1), .val (.ref a2), .val (.long q2), .second, .val (.ref wo)] [(.long q2)])) rfl (hb hby f3_d17) t k) ?_
  show OwnGo p e below (T220.setTop (mkF m 20 #[.val (.ref a1), .val (.ref a2), .val (.long q2), .second, .val (.ref wo)] [(.long (9007199254740992 : Int64)), (.long q2)])) _
  refine own_back (fun t k => XT.lcmp Xr220.here hx rfl (hb hby f3_d20) rfl k) ?_
  show OwnGo p e below (T220.setTop (mkF m 21 #[.val (.ref a1), .val (.ref a2), .val (.long q2), .second, .val (.ref wo)] [(.int (XT.cmpL q2 (9007199254740992 : Int64)))])) _
  refine own_back (fun t k => XS.ifYes Xr220.here hx rfl (pc0 := 21) (pc' := 39) rfl (hb hby f3_d21) rfl (Jvm.Free.XT.ll_lt_t hq1) (by decide) (by decide) k) ?_
  show OwnGo p e below (T220.setTop (mkF m 39 #[.val (.ref a1), .val (.ref a2), .val (.long q2), .second, .val (.ref wo)] [])) _
  refine own_retVW Xr220 hx Bd.notSynchronized Bd.returns hSr220 (Nat.le_refl _) hZr220 hEL (hh ▸ CR224) (hb hby f3_d39) rfl (Nat.le_of_ble_eq_true rfl) (Nat.le_of_ble_eq_true rfl) ?_
  exact ⟨rfl, N220, KP222, Fmin220, Fmax220, Ford220⟩
theorem ef_d0 : decode prog_1_method_5_code 0 = .ok (.lload_n 1, 1) := by decide +kernel
theorem ef_d1 : decode prog_1_method_5_code 1 = .ok (.lload_n 3, 1) := by decide +kernel
theorem ef_d2 : decode prog_1_method_5_code 2 = .ok (.lcmp, 1) := by decide +kernel
theorem ef_d3 : decode prog_1_method_5_code 3 = .ok (.ifCond .ge 29, 3) := by decide +kernel
theorem ef_d6 : decode prog_1_method_5_code 6 = .ok (.lload_n 1, 1) := by decide +kernel
theorem ef_d7 : decode prog_1_method_5_code 7 = .ok (.ldc2_w 69, 3) := by decide +kernel
theorem ef_d10 : decode prog_1_method_5_code 10 = .ok (.lcmp, 1) := by decide +kernel
theorem ef_d11 : decode prog_1_method_5_code 11 = .ok (.ifCond .lt 21, 3) := by decide +kernel
theorem ef_d14 : decode prog_1_method_5_code 14 = .ok (.lload_n 3, 1) := by decide +kernel
theorem ef_d15 : decode prog_1_method_5_code 15 = .ok (.ldc2_w 7, 3) := by decide +kernel
theorem ef_d18 : decode prog_1_method_5_code 18 = .ok (.lcmp, 1) := by decide +kernel
theorem ef_d19 : decode prog_1_method_5_code 19 = .ok (.ifCond .gt 13, 3) := by decide +kernel
theorem ef_d22 : decode prog_1_method_5_code 22 = .ok (.lload_n 3, 1) := by decide +kernel
theorem ef_d23 : decode prog_1_method_5_code 23 = .ok (.lload_n 1, 1) := by decide +kernel
theorem ef_d24 : decode prog_1_method_5_code 24 = .ok (.lsub, 1) := by decide +kernel
theorem ef_d25 : decode prog_1_method_5_code 25 = .ok (.ldc2_w 7, 3) := by decide +kernel
theorem ef_d28 : decode prog_1_method_5_code 28 = .ok (.lcmp, 1) := by decide +kernel
theorem ef_d29 : decode prog_1_method_5_code 29 = .ok (.ifCond .le 19, 3) := by decide +kernel
theorem ef_d48 : decode prog_1_method_5_code 48 = .ok (.new 2, 3) := by decide +kernel
theorem ef_d51 : decode prog_1_method_5_code 51 = .ok (.dup, 1) := by decide +kernel
theorem ef_d52 : decode prog_1_method_5_code 52 = .ok (.aload_n 0, 1) := by decide +kernel
theorem ef_d53 : decode prog_1_method_5_code 53 = .ok (.lload_n 1, 1) := by decide +kernel
theorem ef_d54 : decode prog_1_method_5_code 54 = .ok (.lload_n 3, 1) := by decide +kernel
theorem ef_d55 : decode prog_1_method_5_code 55 = .ok (.lconst 1, 1) := by decide +kernel
theorem ef_d56 : decode prog_1_method_5_code 56 = .ok (.lsub, 1) := by decide +kernel
theorem ef_d57 : decode prog_1_method_5_code 57 = .ok (.getstatic 64, 3) := by decide +kernel
theorem ef_d60 : decode prog_1_method_5_code 60 = .ok (.iconst 1, 1) := by decide +kernel
theorem ef_d61 : decode prog_1_method_5_code 61 = .ok (.invokespecial 1, 3) := by decide +kernel
theorem ef_d64 : decode prog_1_method_5_code 64 = .ok (.areturn, 1) := by decide +kernel
theorem ef_pn : plainName "com/example/sorted_set_patterns/sortedsetpatterns/Field" = true := by first | (simp [plainName, overriddenIn]; done) | decide +kernel
theorem ef_pd0 : parseMethodDescriptor "(Ljava/lang/String;JJLcom/example/sorted_set_patterns/sortedsetpatterns/Field$Order;Z)V" = some ⟨[(.object "java/lang/String"), .long, .long, (.object "com/example/sorted_set_patterns/sortedsetpatterns/Field$Order"), .boolean], none⟩ := by decide +kernel
theorem ef_ef (m : MethodId) (x0 : Addr) (x1 : Int64) (x2 : Int64) : entryFrame m #[(.ref x0), (.long x1), (.long x2)] 5 = mkF m 0 #[.val (.ref x0), .val (.long x1), .second, .val (.long x2), .second] [] := by first | (simp [entryFrame, mkF, argsToLocals, Value.category]; done) | rfl
set_option maxRecDepth 65536 in
set_option maxHeartbeats 40000000 in
theorem rm_ef (l : Launch) (Z : State) (a0 : Array Value) (hw : ∀ d ∈ tables_1, d.before a0 Z = true) (ws : List Jvm.Cond) (a2 : Addr) (y : Int32) (q1 : Int64) (q2 : Int64) (wo : Addr) (cz : Int32) (fm : Value) (h0 : Heap) (n0 : Nat) (Z0 : n0 ≤ h0.size) (OL : Old Z n0 h0) (B2 : OwnStr Z h0 a2 [y]) (EO : Exa Z Z.heap wo "com/example/sorted_set_patterns/sortedsetpatterns/Field$Order") (SL : Sta Z Z.heap "com/example/sorted_set_patterns/sortedsetpatterns/Field$Order" "LOWER_FIRST" "Lcom/example/sorted_set_patterns/sortedsetpatterns/Field$Order;" (.ref wo)) (SC : Sta Z Z.heap "java/lang/String" "COMPACT_STRINGS" "Z" (.int cz)) (hcz : ¬ cz = 0) (SO : Sta Z Z.heap "jdk/internal/util/Preconditions" "SIOOBE_FORMATTER" "Ljava/util/function/BiFunction;" fm) (hfm : fm.isRef = true) (hq0 : q1 < q2) (hq1 : ¬ q1 < (-9007199254740992 : Int64)) (hq2 : ¬ (9007199254740992 : Int64) < q2) (hq3 : ¬ (9007199254740992 : Int64) < (q2 - q1)) :
    MetFree l (⟨"com/example/sorted_set_patterns/sortedsetpatterns/Field", "earliestFirst", "(Ljava/lang/String;JJ)Lcom/example/sorted_set_patterns/sortedsetpatterns/Field;"⟩ : MethodName) (head1 (Jvm.Cond.code (⟨"com/example/sorted_set_patterns/sortedsetpatterns/Field", "earliestFirst", "(Ljava/lang/String;JJ)Lcom/example/sorted_set_patterns/sortedsetpatterns/Field;"⟩ : MethodName) prog_1_method_5_code 5 (some (.object "com/example/sorted_set_patterns/sortedsetpatterns/Field")) :: ws) ({ frames := 5, cells := 5, slots := 49, locals := 140 } : Room)) (fun a U => a = #[(.ref a2), (.long q1), (.long q2)] ∧ Z.Warmed39 U.vm ∧ U.heap = h0 ∧ CHv Z own_EL U.vm h0 ∧ ∀ x ∈ ([] : List Addr), Safe Z own_EL U.vm h0 x) (fun _ _ _ _ _ => True) (fun _ U o U' => OwnEndW Z own_EL U (fun v h L => ∃ a, v = some (.ref a) ∧ Fr n0 L ∧ Ext h0 h ∧ Exa Z h a "com/example/sorted_set_patterns/sortedsetpatterns/Field" ∧ Fld Z h a "com/example/sorted_set_patterns/sortedsetpatterns/Field" "min" "J" (.long q1) ∧ Fld Z h a "com/example/sorted_set_patterns/sortedsetpatterns/Field" "max" "J" (.long (q2 - (1 : Int64))) ∧ Fld Z h a "com/example/sorted_set_patterns/sortedsetpatterns/Field" "order" "Lcom/example/sorted_set_patterns/sortedsetpatterns/Field$Order;" (.ref wo)) ({ frames := 5, cells := 5, slots := 49, locals := 140 } : Room).cells ({ frames := 5, cells := 5, slots := 49, locals := 140 } : Room).slots o U') := by
  refine MetFree.of_bodySF (plainFor_of_name ef_pn) hisR ?_
  intro p e s m args below meth c s₁ Bd hml0 hP hK
  obtain ⟨rfl, hZ, hh, hCH, hSL⟩ := hP
  have hx := Bd.exec
  have hby := Bd.bytes
  have hml : c.maxLocals = 5 := hml0
  have hown : s.vm.findClass "com/example/sorted_set_patterns/sortedsetpatterns/Field" = some m.cls := findClass_of_methodNamed Bd.named
  have hnm := (name_of_methodNamed Bd.named Bd.method).1
  have X0 : Stand p l e ({ frames := 5, cells := 5, slots := 49, locals := 140 } : Room) (s.setVm s.vm) m #[(.ref a2), (.long q1), (.long q2)] below meth c s₁ [] 0 0 := Stand.of_body Bd
  have e0 : s₁.heap = h0 := by rw [← hh, Bd.state]; rfl
  have N0 := Fr.nil n0
  have KP0 := Keep.refl h0 []
  have hown : (s.setVm s.vm).vm.findClass "com/example/sorted_set_patterns/sortedsetpatterns/Field" = some m.cls := hown
  have hZ : Z.Warmed39 (s.setVm s.vm).vm := hZ
  have hS0 : s.Since s.vm 0 := (State.WarmedH.refl s).since 0
  have hk0 : 0 ≤ h0.size := Nat.zero_le _
  have CR0 : CHr Z own_EL s.vm h0 s.vm h0 := CHr.refl hCH
  have hEL := own_EW hw
  refine own_go (Q := (OwnEndW Z own_EL s (fun v h L => ∃ a, v = some (.ref a) ∧ Fr n0 L ∧ Ext h0 h ∧ Exa Z h a "com/example/sorted_set_patterns/sortedsetpatterns/Field" ∧ Fld Z h a "com/example/sorted_set_patterns/sortedsetpatterns/Field" "min" "J" (.long q1) ∧ Fld Z h a "com/example/sorted_set_patterns/sortedsetpatterns/Field" "max" "J" (.long (q2 - (1 : Int64))) ∧ Fld Z h a "com/example/sorted_set_patterns/sortedsetpatterns/Field" "order" "Lcom/example/sorted_set_patterns/sortedsetpatterns/Field$Order;" (.ref wo)) ({ frames := 5, cells := 5, slots := 49, locals := 140 } : Room).cells ({ frames := 5, cells := 5, slots := 49, locals := 140 } : Room).slots)) ?_
  refine own_back (fun t k => castTop (ef_ef m a2 q1 q2) k) ?_
  show OwnGo p e below (s₁.setTop (mkF m 0 #[.val (.ref a2), .val (.long q1), .second, .val (.long q2), .second] [])) _
  refine own_back (fun t k => XS.lloadN X0.here hx rfl (hb hby ef_d0) rfl k) ?_
  show OwnGo p e below (s₁.setTop (mkF m 1 #[.val (.ref a2), .val (.long q1), .second, .val (.long q2), .second] [(.long q1)])) _
  refine own_back (fun t k => XS.lloadN X0.here hx rfl (hb hby ef_d1) rfl k) ?_
  show OwnGo p e below (s₁.setTop (mkF m 2 #[.val (.ref a2), .val (.long q1), .second, .val (.long q2), .second] [(.long q2), (.long q1)])) _
  refine own_back (fun t k => XT.lcmp X0.here hx rfl (hb hby ef_d2) rfl k) ?_
  show OwnGo p e below (s₁.setTop (mkF m 3 #[.val (.ref a2), .val (.long q1), .second, .val (.long q2), .second] [(.int (XT.cmpL q1 q2))])) _
  refine own_back (fun t k => XS.ifNo X0.here hx rfl (hb hby ef_d3) rfl (Jvm.Free.XT.ll_ge_f hq0) k) ?_
  show OwnGo p e below (s₁.setTop (mkF m 6 #[.val (.ref a2), .val (.long q1), .second, .val (.long q2), .second] [])) _
  refine own_back (fun t k => XS.lloadN X0.here hx rfl (hb hby ef_d6) rfl k) ?_
  show OwnGo p e below (s₁.setTop (mkF m 7 #[.val (.ref a2), .val (.long q1), .second, .val (.long q2), .second] [(.long q1)])) _
  refine own_back (fun t k => X0.ldc2Long hx hown (mvT hZ (hw _ (List.mem_of_getElem? (i := 19) rfl))) (g := (mkF m 7 #[.val (.ref a2), .val (.long q1), .second, .val (.long q2), .second] [(.long q1)])) rfl (hb hby ef_d7) t k) ?_
  show OwnGo p e below (s₁.setTop (mkF m 10 #[.val (.ref a2), .val (.long q1), .second, .val (.long q2), .second] [(.long (-9007199254740992 : Int64)), (.long q1)])) _
  refine own_back (fun t k => XT.lcmp X0.here hx rfl (hb hby ef_d10) rfl k) ?_
  show OwnGo p e below (s₁.setTop (mkF m 11 #[.val (.ref a2), .val (.long q1), .second, .val (.long q2), .second] [(.int (XT.cmpL q1 (-9007199254740992 : Int64)))])) _
  refine own_back (fun t k => XS.ifNo X0.here hx rfl (hb hby ef_d11) rfl (Jvm.Free.XT.ll_lt_f hq1) k) ?_
  show OwnGo p e below (s₁.setTop (mkF m 14 #[.val (.ref a2), .val (.long q1), .second, .val (.long q2), .second] [])) _
  refine own_back (fun t k => XS.lloadN X0.here hx rfl (hb hby ef_d14) rfl k) ?_
  show OwnGo p e below (s₁.setTop (mkF m 15 #[.val (.ref a2), .val (.long q1), .second, .val (.long q2), .second] [(.long q2)])) _
  refine own_back (fun t k => X0.ldc2Long hx hown (mvT hZ (hw _ (List.mem_of_getElem? (i := 20) rfl))) (g := (mkF m 15 #[.val (.ref a2), .val (.long q1), .second, .val (.long q2), .second] [(.long q2)])) rfl (hb hby ef_d15) t k) ?_
  show OwnGo p e below (s₁.setTop (mkF m 18 #[.val (.ref a2), .val (.long q1), .second, .val (.long q2), .second] [(.long (9007199254740992 : Int64)), (.long q2)])) _
  refine own_back (fun t k => XT.lcmp X0.here hx rfl (hb hby ef_d18) rfl k) ?_
  show OwnGo p e below (s₁.setTop (mkF m 19 #[.val (.ref a2), .val (.long q1), .second, .val (.long q2), .second] [(.int (XT.cmpL q2 (9007199254740992 : Int64)))])) _
  refine own_back (fun t k => XS.ifNo X0.here hx rfl (hb hby ef_d19) rfl (Jvm.Free.XT.ll_gt_f hq2) k) ?_
  show OwnGo p e below (s₁.setTop (mkF m 22 #[.val (.ref a2), .val (.long q1), .second, .val (.long q2), .second] [])) _
  refine own_back (fun t k => XS.lloadN X0.here hx rfl (hb hby ef_d22) rfl k) ?_
  show OwnGo p e below (s₁.setTop (mkF m 23 #[.val (.ref a2), .val (.long q1), .second, .val (.long q2), .second] [(.long q2)])) _
  refine own_back (fun t k => XS.lloadN X0.here hx rfl (hb hby ef_d23) rfl k) ?_
  show OwnGo p e below (s₁.setTop (mkF m 24 #[.val (.ref a2), .val (.long q1), .second, .val (.long q2), .second] [(.long q1), (.long q2)])) _
  refine own_back (fun t k => XS.lsub X0.here hx rfl (hb hby ef_d24) rfl k) ?_
  show OwnGo p e below (s₁.setTop (mkF m 25 #[.val (.ref a2), .val (.long q1), .second, .val (.long q2), .second] [(.long (q2 - q1))])) _
  refine own_back (fun t k => X0.ldc2Long hx hown (mvT hZ (hw _ (List.mem_of_getElem? (i := 20) rfl))) (g := (mkF m 25 #[.val (.ref a2), .val (.long q1), .second, .val (.long q2), .second] [(.long (q2 - q1))])) rfl (hb hby ef_d25) t k) ?_
  show OwnGo p e below (s₁.setTop (mkF m 28 #[.val (.ref a2), .val (.long q1), .second, .val (.long q2), .second] [(.long (9007199254740992 : Int64)), (.long (q2 - q1))])) _
  refine own_back (fun t k => XT.lcmp X0.here hx rfl (hb hby ef_d28) rfl k) ?_
  show OwnGo p e below (s₁.setTop (mkF m 29 #[.val (.ref a2), .val (.long q1), .second, .val (.long q2), .second] [(.int (XT.cmpL (q2 - q1) (9007199254740992 : Int64)))])) _
  refine own_back (fun t k => XS.ifYes X0.here hx rfl (pc0 := 29) (pc' := 48) rfl (hb hby ef_d29) rfl (Jvm.Free.XT.ll_le_t hq3) (by decide) (by decide) k) ?_
  show OwnGo p e below (s₁.setTop (mkF m 48 #[.val (.ref a2), .val (.long q1), .second, .val (.long q2), .second] [])) _
  obtain ⟨T227, h227, X227, e227, E227, A227, D227, -, st227⟩ := newO X0 hx hZ hown (hw _ (List.mem_of_getElem? (i := 21) rfl)) (hw _ (List.mem_of_getElem? (i := 22) rfl)) (hw _ (List.mem_of_getElem? (i := 17) rfl)) e0 (g := (mkF m 48 #[.val (.ref a2), .val (.long q1), .second, .val (.long q2), .second] [])) rfl (hb hby ef_d48) (Nat.le_of_ble_eq_true rfl) (Nat.le_of_ble_eq_true rfl)
  obtain ⟨b227, g227⟩ : ∃ z, z = h0.size := ⟨_, rfl⟩
  have ge228 : n0 ≤ b227 := Nat.le_trans Z0 (Nat.le_of_eq g227.symm)
  have sz229 : h0.size ≤ b227 := Nat.le_trans KP0.1 (Nat.le_of_eq g227.symm)
  rw [← g227] at A227 D227 st227
  have O230 := OL.ext E227
  have KP231 := KP0.ext E227
  have Zs232 := Nat.le_trans Z0 E227.1
  have CR233 := CR0.trans (CHr.ext E227 CR0.1)
  have hk234 := Nat.le_trans hk0 E227.1
  have f235 := B2.ext E227
  have F236 : Fld Z h227 b227 "com/example/sorted_set_patterns/sortedsetpatterns/Field" "name" "Ljava/lang/String;" .null := D227 (Or.inr (hw _ (List.mem_of_getElem? (i := 79) rfl))) (ty := (.object "java/lang/String")) (by decide)
  have F237 : Fld Z h227 b227 "com/example/sorted_set_patterns/sortedsetpatterns/Field" "min" "J" (.long (0 : Int64)) := D227 (Or.inr (hw _ (List.mem_of_getElem? (i := 81) rfl))) (ty := .long) (by decide)
  have F238 : Fld Z h227 b227 "com/example/sorted_set_patterns/sortedsetpatterns/Field" "max" "J" (.long (0 : Int64)) := D227 (Or.inr (hw _ (List.mem_of_getElem? (i := 83) rfl))) (ty := .long) (by decide)
  have F239 : Fld Z h227 b227 "com/example/sorted_set_patterns/sortedsetpatterns/Field" "order" "Lcom/example/sorted_set_patterns/sortedsetpatterns/Field$Order;" .null := D227 (Or.inr (hw _ (List.mem_of_getElem? (i := 89) rfl))) (ty := (.object "com/example/sorted_set_patterns/sortedsetpatterns/Field$Order")) (by decide)
  have F240 : Fld Z h227 b227 "com/example/sorted_set_patterns/sortedsetpatterns/Field" "instant" "Z" (.int (0 : Int32)) := D227 (Or.inr (hw _ (List.mem_of_getElem? (i := 91) rfl))) (ty := .boolean) (by decide)
  have sf241 := Safe.ext E227 CR0.1 (Safe.new (Nat.le_of_eq g227.symm))
  refine own_back st227 ?_
  show OwnGo p e below (T227.setTop (mkF m 51 #[.val (.ref a2), .val (.long q1), .second, .val (.long q2), .second] [(.ref b227)])) _
  refine own_back (fun t k => XS.dup X227.here hx rfl (hb hby ef_d51) rfl rfl k) ?_
  show OwnGo p e below (T227.setTop (mkF m 52 #[.val (.ref a2), .val (.long q1), .second, .val (.long q2), .second] [(.ref b227), (.ref b227)])) _
  refine own_back (fun t k => XS.aloadN X227.here hx rfl (hb hby ef_d52) rfl rfl k) ?_
  show OwnGo p e below (T227.setTop (mkF m 53 #[.val (.ref a2), .val (.long q1), .second, .val (.long q2), .second] [(.ref a2), (.ref b227), (.ref b227)])) _
  refine own_back (fun t k => XS.lloadN X227.here hx rfl (hb hby ef_d53) rfl k) ?_
  show OwnGo p e below (T227.setTop (mkF m 54 #[.val (.ref a2), .val (.long q1), .second, .val (.long q2), .second] [(.long q1), (.ref a2), (.ref b227), (.ref b227)])) _
  refine own_back (fun t k => XS.lloadN X227.here hx rfl (hb hby ef_d54) rfl k) ?_
  show OwnGo p e below (T227.setTop (mkF m 55 #[.val (.ref a2), .val (.long q1), .second, .val (.long q2), .second] [(.long q2), (.long q1), (.ref a2), (.ref b227), (.ref b227)])) _
  refine own_back (fun t k => XS.lconst X227.here hx rfl (hb hby ef_d55) k) ?_
  show OwnGo p e below (T227.setTop (mkF m 56 #[.val (.ref a2), .val (.long q1), .second, .val (.long q2), .second] [(.long (1 : Int64)), (.long q2), (.long q1), (.ref a2), (.ref b227), (.ref b227)])) _
  refine own_back (fun t k => XS.lsub X227.here hx rfl (hb hby ef_d56) rfl k) ?_
  show OwnGo p e below (T227.setTop (mkF m 57 #[.val (.ref a2), .val (.long q1), .second, .val (.long q2), .second] [(.long (q2 - (1 : Int64))), (.long q1), (.ref a2), (.ref b227), (.ref b227)])) _
  obtain ⟨T242, X242, e242, st242⟩ := getS2 X227 hx hZ hown (host := "") (Or.inl (hw _ (List.mem_of_getElem? (i := 23) rfl))) Via.refl e227 (SL.ext O230.2) (g := (mkF m 57 #[.val (.ref a2), .val (.long q1), .second, .val (.long q2), .second] [(.long (q2 - (1 : Int64))), (.long q1), (.ref a2), (.ref b227), (.ref b227)])) rfl (hb hby ef_d57)
  refine own_back st242 ?_
  show OwnGo p e below (T242.setTop (mkF m 60 #[.val (.ref a2), .val (.long q1), .second, .val (.long q2), .second] [(.ref wo), (.long (q2 - (1 : Int64))), (.long q1), (.ref a2), (.ref b227), (.ref b227)])) _
  refine own_back (fun t k => XS.iconst X242.here hx rfl (hb hby ef_d60) k) ?_
  show OwnGo p e below (T242.setTop (mkF m 61 #[.val (.ref a2), .val (.long q1), .second, .val (.long q2), .second] [(.int (1 : Int32)), (.ref wo), (.long (q2 - (1 : Int64))), (.long q1), (.ref a2), (.ref b227), (.ref b227)])) _
  obtain ⟨_, _, ⟨T243, L243, k243, n243⟩, -, X243, hSn243, hgr243, ⟨Lc243, hQ243, l243, y243, z243, CRn243⟩, st243⟩ := X242.specialBackS hx (y := (⟨"com/example/sorted_set_patterns/sortedsetpatterns/Field", "<init>", "(Ljava/lang/String;JJLcom/example/sorted_set_patterns/sortedsetpatterns/Field$Order;Z)V"⟩ : MethodName)) rfl hown (mvT hZ (hw _ (List.mem_of_getElem? (i := 26) rfl))) (mvT hZ (hw _ (List.mem_of_getElem? (i := 27) rfl))) (mvT hZ (hw _ (List.mem_of_getElem? (i := 28) rfl))) (by decide) (own_backH (W := 1) (rm_f6 l Z a0 hw [] b227 a2 y q1 (q2 - (1 : Int64)) wo (1 : Int32) .null (.long 0) (.long 0) .null (.int 0) cz fm h227 n0 Zs232 O230 A227 F236 F237 F238 F239 F240 ge228 f235 EO SC hcz SO hfm) hZ (hw _ (List.mem_of_getElem? (i := 28) rfl)) (hw _ (List.mem_of_getElem? (i := 17) rfl)) (by decide) (by decide) hEL CR233.1 sf0 all0) (g := (mkF m 61 #[.val (.ref a2), .val (.long q1), .second, .val (.long q2), .second] [(.int (1 : Int32)), (.ref wo), (.long (q2 - (1 : Int64))), (.long q1), (.ref a2), (.ref b227), (.ref b227)])) rfl (by rw [hml]; rfl) (Steps.refl _) (a := b227) (argsL := [(.ref a2), (.long q1), (.long (q2 - (1 : Int64))), (.ref wo), (.int (1 : Int32))]) (rest := [(.ref b227)]) (lenOf ef_pd0 rfl) rfl (by show 2 * 0 + _ ≤ _; exact Nat.le_of_eq rfl) (hb hby ef_d61) (fun _ _ => ⟨rfl, e242, Nat.le_of_ble_eq_true rfl, Nat.le_of_ble_eq_true rfl⟩)
  dsimp only [Pt.U, Pt.locs, Pt.cells, Pt.slots] at X243 l243 y243 z243 st243 hQ243 hSn243 hgr243 CRn243
  subst l243 y243 z243
  obtain ⟨Xr243, hSr243, hZr243, hownr243⟩ := rebS hS0 (own_hle e242 hk234) X243 hSn243 hgr243 hZ hown
  obtain ⟨rfl, N243q, K243, Fmin243, Fmax243, Ford243⟩ := hQ243
  refine own_seq st243 ?_
  have N243 := Fr.app N0 N243q
  have O244 := O230.keep K243 (allS ge228 all0)
  have KP245 := KP231.trans K243 (allS (Or.inr sz229) all0)
  have Zs246 := Nat.le_trans Zs232 K243.1
  have CR247 := CR233.trans CRn243
  have f248 := (OwnStr.keepE K243 A227 (by decide) (hw _ (List.mem_of_getElem? (i := 22) rfl)) f235)
  have f249 := A227.keep K243
  have f250 := (CRn243.safe A227.lt sf241)
  show OwnGo p e below (T243.setTop (mkF m 64 #[.val (.ref a2), .val (.long q1), .second, .val (.long q2), .second] [(.ref b227)])) _
  refine own_retAW Xr243 hx Bd.notSynchronized Bd.returns rfl rfl hSr243 (Nat.le_refl _) hZr243 hEL (hh ▸ CR247) (hb hby ef_d64) rfl (Nat.le_of_ble_eq_true rfl) (Nat.le_of_ble_eq_true rfl) ?_
  exact ⟨b227, rfl, N243, own_ext KP245, f249, Fmin243, Fmax243, Ford243⟩
theorem dg_d0 : decode prog_1_method_12_code 0 = .ok (.aload_n 0, 1) := by decide +kernel
theorem dg_d1 : decode prog_1_method_12_code 1 = .ok (.getfield 51, 3) := by decide +kernel
theorem dg_d4 : decode prog_1_method_12_code 4 = .ok (.getstatic 58, 3) := by decide +kernel
theorem dg_d7 : decode prog_1_method_12_code 7 = .ok (.if_acmp .ne 12, 3) := by decide +kernel
theorem dg_d10 : decode prog_1_method_12_code 10 = .ok (.lload_n 1, 1) := by decide +kernel
theorem dg_d11 : decode prog_1_method_12_code 11 = .ok (.aload_n 0, 1) := by decide +kernel
theorem dg_d12 : decode prog_1_method_12_code 12 = .ok (.getfield 34, 3) := by decide +kernel
theorem dg_d15 : decode prog_1_method_12_code 15 = .ok (.lsub, 1) := by decide +kernel
theorem dg_d16 : decode prog_1_method_12_code 16 = .ok (.goto 9, 3) := by decide +kernel
theorem dg_d19 : decode prog_1_method_12_code 19 = .ok (.aload_n 0, 1) := by decide +kernel
theorem dg_d20 : decode prog_1_method_12_code 20 = .ok (.getfield 38, 3) := by decide +kernel
theorem dg_d23 : decode prog_1_method_12_code 23 = .ok (.lload_n 1, 1) := by decide +kernel
theorem dg_d24 : decode prog_1_method_12_code 24 = .ok (.lsub, 1) := by decide +kernel
theorem dg_d25 : decode prog_1_method_12_code 25 = .ok (.lreturn, 1) := by decide +kernel
theorem dg_pn : plainName "com/example/sorted_set_patterns/sortedsetpatterns/Field" = true := by first | (simp [plainName, overriddenIn]; done) | decide +kernel
theorem dg_ef (m : MethodId) (x0 : Addr) (x1 : Int64) : entryFrame m #[(.ref x0), (.long x1)] 3 = mkF m 0 #[.val (.ref x0), .val (.long x1), .second] [] := by first | (simp [entryFrame, mkF, argsToLocals, Value.category]; done) | rfl
set_option maxRecDepth 65536 in
set_option maxHeartbeats 40000000 in
theorem rm_dg (l : Launch) (Z : State) (a0 : Array Value) (hw : ∀ d ∈ tables_1, d.before a0 Z = true) (ws : List Jvm.Cond) (a1 : Addr) (q1 : Int64) (mn : Int64) (mx : Int64) (wo : Addr) (wh : Addr) (h0 : Heap) (n0 : Nat) (Z0 : n0 ≤ h0.size) (OL : Old Z n0 h0) (Fmin : Fld Z h0 a1 "com/example/sorted_set_patterns/sortedsetpatterns/Field" "min" "J" (.long mn)) (Fmax : Fld Z h0 a1 "com/example/sorted_set_patterns/sortedsetpatterns/Field" "max" "J" (.long mx)) (Forder : Fld Z h0 a1 "com/example/sorted_set_patterns/sortedsetpatterns/Field" "order" "Lcom/example/sorted_set_patterns/sortedsetpatterns/Field$Order;" (.ref wo)) (SH : Sta Z Z.heap "com/example/sorted_set_patterns/sortedsetpatterns/Field$Order" "HIGHER_FIRST" "Lcom/example/sorted_set_patterns/sortedsetpatterns/Field$Order;" (.ref wh)) :
    MetFree l (⟨"com/example/sorted_set_patterns/sortedsetpatterns/Field", "digit", "(J)J"⟩ : MethodName) (head1 (Jvm.Cond.code (⟨"com/example/sorted_set_patterns/sortedsetpatterns/Field", "digit", "(J)J"⟩ : MethodName) prog_1_method_12_code 3 (some .long) :: ws) ({ frames := 0, cells := 0, slots := 0, locals := 0 } : Room)) (fun a U => a = #[(.ref a1), (.long q1)] ∧ Z.Warmed39 U.vm ∧ U.heap = h0) (fun _ _ _ _ _ => True) (fun _ U o U' => OwnEnd U (fun v h L => v = some (.long (if wo = wh then q1 - mn else mx - q1)) ∧ Fr n0 L ∧ h = h0) ({ frames := 0, cells := 0, slots := 0, locals := 0 } : Room).cells ({ frames := 0, cells := 0, slots := 0, locals := 0 } : Room).slots o U') := by
  refine MetFree.of_bodySF (plainFor_of_name dg_pn) hisR ?_
  intro p e s m args below meth c s₁ Bd hml0 hP hK
  obtain ⟨rfl, hZ, hh⟩ := hP
  have hx := Bd.exec
  have hby := Bd.bytes
  have hml : c.maxLocals = 3 := hml0
  have hown : s.vm.findClass "com/example/sorted_set_patterns/sortedsetpatterns/Field" = some m.cls := findClass_of_methodNamed Bd.named
  have hnm := (name_of_methodNamed Bd.named Bd.method).1
  have X0 : Stand p l e ({ frames := 0, cells := 0, slots := 0, locals := 0 } : Room) s m #[(.ref a1), (.long q1)] below meth c s₁ [] 0 0 := Stand.of_body Bd
  have e0 : s₁.heap = h0 := by rw [← hh, Bd.state]; rfl
  have N0 := Fr.nil n0
  have KP0 := Keep.refl h0 []
  refine own_go (Q := (OwnEnd s (fun v h L => v = some (.long (if wo = wh then q1 - mn else mx - q1)) ∧ Fr n0 L ∧ h = h0) ({ frames := 0, cells := 0, slots := 0, locals := 0 } : Room).cells ({ frames := 0, cells := 0, slots := 0, locals := 0 } : Room).slots)) ?_
  refine own_back (fun t k => castTop (dg_ef m a1 q1) k) ?_
  show OwnGo p e below (s₁.setTop (mkF m 0 #[.val (.ref a1), .val (.long q1), .second] [])) _
  refine own_back (fun t k => XS.aloadN X0.here hx rfl (hb hby dg_d0) rfl rfl k) ?_
  show OwnGo p e below (s₁.setTop (mkF m 1 #[.val (.ref a1), .val (.long q1), .second] [(.ref a1)])) _
  obtain ⟨T251, X251, e251, st251⟩ := getF X0 hx hZ hown (host := "") (Or.inl (hw _ (List.mem_of_getElem? (i := 88) rfl))) Via.refl e0 Forder (g := (mkF m 1 #[.val (.ref a1), .val (.long q1), .second] [(.ref a1)])) rfl rfl (hb hby dg_d1)
  refine own_back st251 ?_
  show OwnGo p e below (T251.setTop (mkF m 4 #[.val (.ref a1), .val (.long q1), .second] [(.ref wo)])) _
  obtain ⟨T252, X252, e252, st252⟩ := getS2 X251 hx hZ hown (host := "") (Or.inl (hw _ (List.mem_of_getElem? (i := 97) rfl))) Via.refl e251 (SH.ext OL.2) (g := (mkF m 4 #[.val (.ref a1), .val (.long q1), .second] [(.ref wo)])) rfl (hb hby dg_d4)
  refine own_back st252 ?_
  show OwnGo p e below (T252.setTop (mkF m 7 #[.val (.ref a1), .val (.long q1), .second] [(.ref wh), (.ref wo)])) _
  by_cases ha7_253 : wo = wh
  · refine own_back (fun t k => Jvm.RoadKit.acmp (g := (mkF m 7 #[.val (.ref a1), .val (.long q1), .second] [(.ref wh), (.ref wo)])) X252 hx rfl rfl rfl (pc0 := 7) (pc' := 10) (same := true) rfl (hb hby dg_d7) rfl (decide_eq_true (congrArg Value.ref ha7_253)) (by decide) (by decide) k) ?_
    show OwnGo p e below (T252.setTop (mkF m 10 #[.val (.ref a1), .val (.long q1), .second] [])) _
    refine own_back (fun t k => XS.lloadN X252.here hx rfl (hb hby dg_d10) rfl k) ?_
    show OwnGo p e below (T252.setTop (mkF m 11 #[.val (.ref a1), .val (.long q1), .second] [(.long q1)])) _
    refine own_back (fun t k => XS.aloadN X252.here hx rfl (hb hby dg_d11) rfl rfl k) ?_
    show OwnGo p e below (T252.setTop (mkF m 12 #[.val (.ref a1), .val (.long q1), .second] [(.ref a1), (.long q1)])) _
    obtain ⟨T254, X254, e254, st254⟩ := getF X252 hx hZ hown (host := "") (Or.inl (hw _ (List.mem_of_getElem? (i := 80) rfl))) Via.refl e252 Fmin (g := (mkF m 12 #[.val (.ref a1), .val (.long q1), .second] [(.ref a1), (.long q1)])) rfl rfl (hb hby dg_d12)
    refine own_back st254 ?_
    show OwnGo p e below (T254.setTop (mkF m 15 #[.val (.ref a1), .val (.long q1), .second] [(.long mn), (.long q1)])) _
    refine own_back (fun t k => XS.lsub X254.here hx rfl (hb hby dg_d15) rfl k) ?_
    show OwnGo p e below (T254.setTop (mkF m 16 #[.val (.ref a1), .val (.long q1), .second] [(.long (q1 - mn))])) _
    refine own_back (fun t k => XS.goto X254.here hx rfl (pc0 := 16) (pc' := 25) rfl (hb hby dg_d16) (by decide) (by decide) k) ?_
    show OwnGo p e below (T254.setTop (mkF m 25 #[.val (.ref a1), .val (.long q1), .second] [(.long (q1 - mn))])) _
    refine own_retJ X254 hx Bd.notSynchronized Bd.returns (hb hby dg_d25) e254 (Nat.le_of_ble_eq_true rfl) (Nat.le_of_ble_eq_true rfl) ?_
    exact ⟨by rw [if_pos ha7_253], N0, rfl⟩
  · refine own_back (fun t k => Jvm.RoadKit.acmp (g := (mkF m 7 #[.val (.ref a1), .val (.long q1), .second] [(.ref wh), (.ref wo)])) X252 hx rfl rfl rfl (pc0 := 7) (pc' := 19) (same := false) rfl (hb hby dg_d7) rfl (decide_eq_false fun q => ha7_253 (Value.ref.inj q)) (by decide) (by decide) k) ?_
    show OwnGo p e below (T252.setTop (mkF m 19 #[.val (.ref a1), .val (.long q1), .second] [])) _
    refine own_back (fun t k => XS.aloadN X252.here hx rfl (hb hby dg_d19) rfl rfl k) ?_
    show OwnGo p e below (T252.setTop (mkF m 20 #[.val (.ref a1), .val (.long q1), .second] [(.ref a1)])) _
    obtain ⟨T255, X255, e255, st255⟩ := getF X252 hx hZ hown (host := "") (Or.inl (hw _ (List.mem_of_getElem? (i := 82) rfl))) Via.refl e252 Fmax (g := (mkF m 20 #[.val (.ref a1), .val (.long q1), .second] [(.ref a1)])) rfl rfl (hb hby dg_d20)
    refine own_back st255 ?_
    show OwnGo p e below (T255.setTop (mkF m 23 #[.val (.ref a1), .val (.long q1), .second] [(.long mx)])) _
    refine own_back (fun t k => XS.lloadN X255.here hx rfl (hb hby dg_d23) rfl k) ?_
    show OwnGo p e below (T255.setTop (mkF m 24 #[.val (.ref a1), .val (.long q1), .second] [(.long q1), (.long mx)])) _
    refine own_back (fun t k => XS.lsub X255.here hx rfl (hb hby dg_d24) rfl k) ?_
    show OwnGo p e below (T255.setTop (mkF m 25 #[.val (.ref a1), .val (.long q1), .second] [(.long (mx - q1))])) _
    refine own_retJ X255 hx Bd.notSynchronized Bd.returns (hb hby dg_d25) e255 (Nat.le_of_ble_eq_true rfl) (Nat.le_of_ble_eq_true rfl) ?_
    exact ⟨by rw [if_neg ha7_253], N0, rfl⟩
def own_min (x y : Int64) : Int64 := if y < x then y else x
theorem mi_d0 : decode jdk_29_method_70_code 0 = .ok (.lload_n 0, 1) := by decide +kernel
theorem mi_d1 : decode jdk_29_method_70_code 1 = .ok (.lload_n 2, 1) := by decide +kernel
theorem mi_d2 : decode jdk_29_method_70_code 2 = .ok (.lcmp, 1) := by decide +kernel
theorem mi_d3 : decode jdk_29_method_70_code 3 = .ok (.ifCond .gt 7, 3) := by decide +kernel
theorem mi_d6 : decode jdk_29_method_70_code 6 = .ok (.lload_n 0, 1) := by decide +kernel
theorem mi_d7 : decode jdk_29_method_70_code 7 = .ok (.goto 4, 3) := by decide +kernel
theorem mi_d10 : decode jdk_29_method_70_code 10 = .ok (.lload_n 2, 1) := by decide +kernel
theorem mi_d11 : decode jdk_29_method_70_code 11 = .ok (.lreturn, 1) := by decide +kernel
theorem mi_ef (m : MethodId) (x0 : Int64) (x1 : Int64) : entryFrame m #[(.long x0), (.long x1)] 4 = mkF m 0 #[.val (.long x0), .second, .val (.long x1), .second] [] := by first | (simp [entryFrame, mkF, argsToLocals, Value.category]; done) | rfl
set_option maxRecDepth 65536 in
set_option maxHeartbeats 40000000 in
theorem rm_mi (l : Launch) (Z : State) (a0 : Array Value) (hw : ∀ d ∈ tables_1, d.before a0 Z = true) (ws : List Jvm.Cond) (q1 : Int64) (q2 : Int64) (h0 : Heap) (n0 : Nat) (Z0 : n0 ≤ h0.size)  :
    MetFree l (⟨"java/lang/Math", "min", "(JJ)J"⟩ : MethodName) (head1 (Jvm.Cond.code (⟨"java/lang/Math", "min", "(JJ)J"⟩ : MethodName) jdk_29_method_70_code 4 (some .long) :: ws) ({ frames := 0, cells := 0, slots := 0, locals := 0 } : Room)) (fun a U => a = #[(.long q1), (.long q2)] ∧ Z.Warmed39 U.vm ∧ U.heap = h0) (fun _ _ _ _ _ => True) (fun _ U o U' => OwnEnd U (fun v h L => v = some (.long (own_min q1 q2)) ∧ Fr n0 L ∧ h = h0) ({ frames := 0, cells := 0, slots := 0, locals := 0 } : Room).cells ({ frames := 0, cells := 0, slots := 0, locals := 0 } : Room).slots o U') := by
  refine MetFree.of_bodySF (Jvm.Free.JP.mathPlain rfl (by decide +kernel)) hisR ?_
  intro p e s m args below meth c s₁ Bd hml0 hP hK
  obtain ⟨rfl, hZ, hh⟩ := hP
  have hx := Bd.exec
  have hby := Bd.bytes
  have hml : c.maxLocals = 4 := hml0
  have hown : s.vm.findClass "java/lang/Math" = some m.cls := findClass_of_methodNamed Bd.named
  have hnm := (name_of_methodNamed Bd.named Bd.method).1
  have X0 : Stand p l e ({ frames := 0, cells := 0, slots := 0, locals := 0 } : Room) s m #[(.long q1), (.long q2)] below meth c s₁ [] 0 0 := Stand.of_body Bd
  have e0 : s₁.heap = h0 := by rw [← hh, Bd.state]; rfl
  have N0 := Fr.nil n0
  have KP0 := Keep.refl h0 []
  refine own_go (Q := (OwnEnd s (fun v h L => v = some (.long (own_min q1 q2)) ∧ Fr n0 L ∧ h = h0) ({ frames := 0, cells := 0, slots := 0, locals := 0 } : Room).cells ({ frames := 0, cells := 0, slots := 0, locals := 0 } : Room).slots)) ?_
  refine own_back (fun t k => castTop (mi_ef m q1 q2) k) ?_
  show OwnGo p e below (s₁.setTop (mkF m 0 #[.val (.long q1), .second, .val (.long q2), .second] [])) _
  refine own_back (fun t k => XS.lloadN X0.here hx rfl (hb hby mi_d0) rfl k) ?_
  show OwnGo p e below (s₁.setTop (mkF m 1 #[.val (.long q1), .second, .val (.long q2), .second] [(.long q1)])) _
  refine own_back (fun t k => XS.lloadN X0.here hx rfl (hb hby mi_d1) rfl k) ?_
  show OwnGo p e below (s₁.setTop (mkF m 2 #[.val (.long q1), .second, .val (.long q2), .second] [(.long q2), (.long q1)])) _
  refine own_back (fun t k => XT.lcmp X0.here hx rfl (hb hby mi_d2) rfl k) ?_
  show OwnGo p e below (s₁.setTop (mkF m 3 #[.val (.long q1), .second, .val (.long q2), .second] [(.int (XT.cmpL q1 q2))])) _
  by_cases hc3_256 : q2 < q1
  · refine own_back (fun t k => XS.ifYes X0.here hx rfl (pc0 := 3) (pc' := 10) rfl (hb hby mi_d3) rfl (Jvm.Free.XT.ll_gt_t hc3_256) (by decide) (by decide) k) ?_
    show OwnGo p e below (s₁.setTop (mkF m 10 #[.val (.long q1), .second, .val (.long q2), .second] [])) _
    refine own_back (fun t k => XS.lloadN X0.here hx rfl (hb hby mi_d10) rfl k) ?_
    show OwnGo p e below (s₁.setTop (mkF m 11 #[.val (.long q1), .second, .val (.long q2), .second] [(.long q2)])) _
    refine own_retJ X0 hx Bd.notSynchronized Bd.returns (hb hby mi_d11) e0 (Nat.le_of_ble_eq_true rfl) (Nat.le_of_ble_eq_true rfl) ?_
    exact ⟨by rw [own_min, if_pos hc3_256], N0, rfl⟩
  · refine own_back (fun t k => XS.ifNo X0.here hx rfl (hb hby mi_d3) rfl (Jvm.Free.XT.ll_gt_f hc3_256) k) ?_
    show OwnGo p e below (s₁.setTop (mkF m 6 #[.val (.long q1), .second, .val (.long q2), .second] [])) _
    refine own_back (fun t k => XS.lloadN X0.here hx rfl (hb hby mi_d6) rfl k) ?_
    show OwnGo p e below (s₁.setTop (mkF m 7 #[.val (.long q1), .second, .val (.long q2), .second] [(.long q1)])) _
    refine own_back (fun t k => XS.goto X0.here hx rfl (pc0 := 7) (pc' := 11) rfl (hb hby mi_d7) (by decide) (by decide) k) ?_
    show OwnGo p e below (s₁.setTop (mkF m 11 #[.val (.long q1), .second, .val (.long q2), .second] [(.long q1)])) _
    refine own_retJ X0 hx Bd.notSynchronized Bd.returns (hb hby mi_d11) e0 (Nat.le_of_ble_eq_true rfl) (Nat.le_of_ble_eq_true rfl) ?_
    exact ⟨by rw [own_min, if_neg hc3_256], N0, rfl⟩
theorem own_z64 : (0 : Int64).toInt = 0 := rfl
theorem own_lo (m : Int64) : -9007199254740992 ≤ ((m &&& (18014398509481983 : Int64)) - (9007199254740992 : Int64)).toInt ∧ ((m &&& (18014398509481983 : Int64)) - (9007199254740992 : Int64)).toInt ≤ 9007199254740991 := by
  have h := c_maskL m 18014398509481983 54 (by decide) (by decide)
  have e : ((2 ^ 54 : Nat) : Int) = 18014398509481984 := by decide
  rw [e] at h
  have h2 := c_lsub (m &&& (18014398509481983 : Int64)) (9007199254740992 : Int64)
  have z : (9007199254740992 : Int64).toInt = 9007199254740992 := rfl
  have h3 := ((m &&& (18014398509481983 : Int64)) - (9007199254740992 : Int64)).toInt_lt
  have h4 := ((m &&& (18014398509481983 : Int64)) - (9007199254740992 : Int64)).le_toInt
  omega
theorem own_room {lo : Int64} (h1 : -9007199254740992 ≤ lo.toInt) (h2 : lo.toInt ≤ 9007199254740991) : 1 ≤ (own_min (9007199254740992 : Int64) ((9007199254740992 : Int64) - lo)).toInt ∧ (own_min (9007199254740992 : Int64) ((9007199254740992 : Int64) - lo)).toInt ≤ 9007199254740992 ∧ (own_min (9007199254740992 : Int64) ((9007199254740992 : Int64) - lo)).toInt + lo.toInt ≤ 9007199254740992 := by
  have h := c_lsub (9007199254740992 : Int64) lo
  have z : (9007199254740992 : Int64).toInt = 9007199254740992 := rfl
  have h3 := ((9007199254740992 : Int64) - lo).toInt_lt
  have h4 := ((9007199254740992 : Int64) - lo).le_toInt
  by_cases q : ((9007199254740992 : Int64) - lo) < (9007199254740992 : Int64)
  · rw [own_min, if_pos q]; rw [Int64.lt_iff_toInt_lt] at q; omega
  · rw [own_min, if_neg q]; rw [Int64.lt_iff_toInt_lt] at q; omega
theorem own_nz {x : Int64} (h : 1 ≤ x.toInt) : x ≠ 0 := fun e => by rw [e, own_z64] at h; omega
theorem own_rem {a r : Int64} (h : 1 ≤ r.toInt) : 0 ≤ ((a &&& (9223372036854775807 : Int64)) % r).toInt ∧ ((a &&& (9223372036854775807 : Int64)) % r).toInt < r.toInt := by
  have hm := c_maskL a 9223372036854775807 63 (by decide) (by decide)
  have e : ((2 ^ 63 : Nat) : Int) = 9223372036854775808 := by decide
  rw [e] at hm
  have hr := (c_lrem (a &&& (9223372036854775807 : Int64)) r r.toInt rfl).1 (by omega)
  rw [lrem_mod] at hr
  rw [hr]
  exact ⟨Int.emod_nonneg _ (by omega), Int.emod_lt_of_pos _ (by omega)⟩
theorem own_size {a r : Int64} (h : 1 ≤ r.toInt) (h2 : r.toInt ≤ 9007199254740992) : 1 ≤ ((1 : Int64) + ((a &&& (9223372036854775807 : Int64)) % r)).toInt ∧ ((1 : Int64) + ((a &&& (9223372036854775807 : Int64)) % r)).toInt ≤ r.toInt := by
  have h3 := own_rem (a := a) h
  have h4 := c_ladd (1 : Int64) ((a &&& (9223372036854775807 : Int64)) % r)
  have z : (1 : Int64).toInt = 1 := rfl
  have h5 := ((1 : Int64) + ((a &&& (9223372036854775807 : Int64)) % r)).toInt_lt
  have h6 := ((1 : Int64) + ((a &&& (9223372036854775807 : Int64)) % r)).le_toInt
  omega
theorem own_e1 {lo sz : Int64} (h1 : -9007199254740992 ≤ lo.toInt) (h2 : lo.toInt ≤ 9007199254740991) (h3 : 1 ≤ sz.toInt) (h4 : sz.toInt ≤ 9007199254740992) (h5 : sz.toInt + lo.toInt ≤ 9007199254740992) : lo < lo + sz ∧ ¬ lo < (-9007199254740992 : Int64) ∧ ¬ (9007199254740992 : Int64) < lo + sz ∧ ¬ (9007199254740992 : Int64) < ((lo + sz) - lo) := by
  have a1 := c_ladd lo sz
  have a2 := (lo + sz).toInt_lt
  have a3 := (lo + sz).le_toInt
  have b1 := c_lsub (lo + sz) lo
  have b2 := ((lo + sz) - lo).toInt_lt
  have b3 := ((lo + sz) - lo).le_toInt
  have z1 : (9007199254740992 : Int64).toInt = 9007199254740992 := rfl
  have z2 : (-9007199254740992 : Int64).toInt = -9007199254740992 := rfl
  simp only [Int64.lt_iff_toInt_lt]
  omega
theorem own_s2 (m : Int64) : 1 ≤ ((m &&& (9007199254740991 : Int64)) + (1 : Int64)).toInt ∧ ¬ (((m &&& (9007199254740991 : Int64)) + (1 : Int64)) - (1 : Int64)) < 0 ∧ (((m &&& (9007199254740991 : Int64)) + (1 : Int64)) - (1 : Int64)) < (9007199254740992 : Int64) := by
  have h := c_maskL m 9007199254740991 53 (by decide) (by decide)
  have e : ((2 ^ 53 : Nat) : Int) = 9007199254740992 := by decide
  rw [e] at h
  have a1 := c_ladd (m &&& (9007199254740991 : Int64)) 1
  have a2 := ((m &&& (9007199254740991 : Int64)) + (1 : Int64)).toInt_lt
  have a3 := ((m &&& (9007199254740991 : Int64)) + (1 : Int64)).le_toInt
  have b1 := c_lsub ((m &&& (9007199254740991 : Int64)) + (1 : Int64)) 1
  have b2 := (((m &&& (9007199254740991 : Int64)) + (1 : Int64)) - (1 : Int64)).toInt_lt
  have b3 := (((m &&& (9007199254740991 : Int64)) + (1 : Int64)) - (1 : Int64)).le_toInt
  have z1 : (9007199254740992 : Int64).toInt = 9007199254740992 := rfl
  have z : (1 : Int64).toInt = 1 := rfl
  simp only [Int64.lt_iff_toInt_lt, own_z64]
  omega
theorem own_inj64 {x y : Int64} (h : (x.toInt - y.toInt) % 18446744073709551616 = 0) : x = y := by
  have a1 := x.toInt_lt
  have a2 := x.le_toInt
  have b1 := y.toInt_lt
  have b2 := y.le_toInt
  exact Int64.toInt_inj.mp (by omega)
theorem own_fin1 (lo sz ix : Int64) : ((lo + sz) - (1 : Int64)) - (lo + ix) = (sz - (1 : Int64)) - ix := by
  have a1 := c_ladd lo sz
  have a2 := c_lsub (lo + sz) 1
  have a3 := c_ladd lo ix
  have a4 := c_lsub ((lo + sz) - (1 : Int64)) (lo + ix)
  have a5 := c_lsub sz 1
  have a6 := c_lsub (sz - (1 : Int64)) ix
  apply own_inj64
  omega
theorem own_fin2 (sz ix : Int64) : (sz - (1 : Int64)) - ((0 : Int64) + ix) = (sz - (1 : Int64)) - ix := by
  have a3 := c_ladd 0 ix
  have a4 := c_lsub (sz - (1 : Int64)) ((0 : Int64) + ix)
  have a6 := c_lsub (sz - (1 : Int64)) ix
  have z := own_z64
  apply own_inj64
  omega
theorem own_fin3 (ix : Int64) : ((0 : Int64) + ix) - (0 : Int64) = ix := by
  have a3 := c_ladd 0 ix
  have a4 := c_lsub ((0 : Int64) + ix) 0
  have z := own_z64
  apply own_inj64
  omega
theorem lw_pn : plainName "com/example/sorted_set_patterns/sortedsetpatterns/FieldDigitPinLaw" = true := by first | (simp [plainName, overriddenIn]; done) | decide +kernel
theorem lw_pd0 : parseMethodDescriptor "(Ljava/lang/String;JLcom/example/sorted_set_patterns/sortedsetpatterns/Field$Order;)V" = some ⟨[(.object "java/lang/String"), .long, (.object "com/example/sorted_set_patterns/sortedsetpatterns/Field$Order")], none⟩ := by decide +kernel
theorem lw_pd1 : parseMethodDescriptor "(J)J" = some ⟨[.long], some .long⟩ := by decide +kernel
theorem lw_pd2 : parseMethodDescriptor "(JJ)J" = some ⟨[.long, .long], some .long⟩ := by decide +kernel
theorem lw_pd3 : parseMethodDescriptor "(Ljava/lang/String;JJ)Lcom/example/sorted_set_patterns/sortedsetpatterns/Field;" = some ⟨[(.object "java/lang/String"), .long, .long], some (.object "com/example/sorted_set_patterns/sortedsetpatterns/Field")⟩ := by decide +kernel
theorem lw_ef (m : MethodId) (x0 : Int64) (x1 : Int64) (x2 : Int64) (x3 : Int32) : entryFrame m #[(.long x0), (.long x1), (.long x2), (.int x3)] maxLocals = mkF m 0 #[.val (.long x0), .second, .val (.long x1), .second, .val (.long x2), .second, .val (.int x3), .unset, .unset, .unset, .unset, .unset, .unset, .unset, .unset, .unset, .unset, .unset] [] := by first | (simp [entryFrame, mkF, argsToLocals, Value.category, maxLocals]; done) | rfl
set_option maxRecDepth 65536 in
set_option maxHeartbeats 40000000 in
theorem rm_law (l : Launch) (Z : State) (a0 : Array Value) (hw : ∀ d ∈ tables_1, d.before a0 Z = true) (ws : List Jvm.Cond) (p1 : Int64) (p2 : Int64) (p3 : Int64) (p4 : Int32) (wo : Addr) (wh : Addr) (cz : Int32) (fm : Value) (h0 : Heap) (n0 : Nat) (Z0 : n0 ≤ h0.size) (OL : Old Z n0 h0) (EO : Exa Z Z.heap wo "com/example/sorted_set_patterns/sortedsetpatterns/Field$Order") (EH : Exa Z Z.heap wh "com/example/sorted_set_patterns/sortedsetpatterns/Field$Order") (SL : Sta Z Z.heap "com/example/sorted_set_patterns/sortedsetpatterns/Field$Order" "LOWER_FIRST" "Lcom/example/sorted_set_patterns/sortedsetpatterns/Field$Order;" (.ref wo)) (SH : Sta Z Z.heap "com/example/sorted_set_patterns/sortedsetpatterns/Field$Order" "HIGHER_FIRST" "Lcom/example/sorted_set_patterns/sortedsetpatterns/Field$Order;" (.ref wh)) (hne : ¬ wo = wh) (SC : Sta Z Z.heap "java/lang/String" "COMPACT_STRINGS" "Z" (.int cz)) (hcz : ¬ cz = 0) (SO : Sta Z Z.heap "jdk/internal/util/Preconditions" "SIOOBE_FORMATTER" "Ljava/util/function/BiFunction;" fm) (hfm : fm.isRef = true) :
    MetFree l x (head1 (Jvm.Cond.code x code maxLocals ret :: ws) room_1) (fun a U => a = #[(.long p1), (.long p2), (.long p3), (.int p4)] ∧ Z.Warmed39 U.vm ∧ U.heap = h0 ∧ CHv Z own_EL U.vm h0 ∧ ∀ x ∈ ([] : List Addr), Safe Z own_EL U.vm h0 x) (fun _ _ _ _ _ => True) (fun _ U o U' => OwnEndW Z own_EL U (fun v h L => v = some (.int 1) ∧ Fr n0 L) room_1.cells room_1.slots o U') := by
  refine MetFree.of_bodySF (plainFor_of_name lw_pn) hisR ?_
  intro p e s m args below meth c s₁ Bd hml0 hP hK
  obtain ⟨rfl, hZ, hh, hCH, hSL⟩ := hP
  have hx := Bd.exec
  have hby := Bd.bytes
  have hml : c.maxLocals = 18 := hml0
  have hown : s.vm.findClass "com/example/sorted_set_patterns/sortedsetpatterns/FieldDigitPinLaw" = some m.cls := findClass_of_methodNamed Bd.named
  have hnm := (name_of_methodNamed Bd.named Bd.method).1
  have X0 : Stand p l e room_1 (s.setVm s.vm) m #[(.long p1), (.long p2), (.long p3), (.int p4)] below meth c s₁ [] 0 0 := Stand.of_body Bd
  have e0 : s₁.heap = h0 := by rw [← hh, Bd.state]; rfl
  have N0 := Fr.nil n0
  have KP0 := Keep.refl h0 []
  have hown : (s.setVm s.vm).vm.findClass "com/example/sorted_set_patterns/sortedsetpatterns/FieldDigitPinLaw" = some m.cls := hown
  have hZ : Z.Warmed39 (s.setVm s.vm).vm := hZ
  have hS0 : s.Since s.vm 0 := (State.WarmedH.refl s).since 0
  have hk0 : 0 ≤ h0.size := Nat.zero_le _
  have CR0 : CHr Z own_EL s.vm h0 s.vm h0 := CHr.refl hCH
  have hEL := own_EW hw
  refine own_go (Q := (OwnEndW Z own_EL s (fun v h L => v = some (.int 1) ∧ Fr n0 L) room_1.cells room_1.slots)) ?_
  refine own_back (fun t k => castTop (lw_ef m p1 p2 p3 p4) k) ?_
  show OwnGo p e below (s₁.setTop (mkF m 0 #[.val (.long p1), .second, .val (.long p2), .second, .val (.long p3), .second, .val (.int p4), .unset, .unset, .unset, .unset, .unset, .unset, .unset, .unset, .unset, .unset, .unset] [])) _
  refine own_back (fun t k => XS.iload X0.here hx rfl (hb hby at_0) rfl k) ?_
  show OwnGo p e below (s₁.setTop (mkF m 2 #[.val (.long p1), .second, .val (.long p2), .second, .val (.long p3), .second, .val (.int p4), .unset, .unset, .unset, .unset, .unset, .unset, .unset, .unset, .unset, .unset, .unset] [(.int p4)])) _
  refine own_back (fun t k => XS.iconst X0.here hx rfl (hb hby at_2) k) ?_
  show OwnGo p e below (s₁.setTop (mkF m 3 #[.val (.long p1), .second, .val (.long p2), .second, .val (.long p3), .second, .val (.int p4), .unset, .unset, .unset, .unset, .unset, .unset, .unset, .unset, .unset, .unset, .unset] [(.int (1 : Int32)), (.int p4)])) _
  refine own_back (fun t k => XS.iand X0.here hx rfl (hb hby at_3) rfl k) ?_
  show OwnGo p e below (s₁.setTop (mkF m 4 #[.val (.long p1), .second, .val (.long p2), .second, .val (.long p3), .second, .val (.int p4), .unset, .unset, .unset, .unset, .unset, .unset, .unset, .unset, .unset, .unset, .unset] [(.int (p4 &&& (1 : Int32)))])) _
  by_cases hc4_257 : (p4 &&& (1 : Int32)) = (0 : Int32)
  · refine own_back (fun t k => XS.ifYes X0.here hx rfl (pc0 := 4) (pc' := 11) rfl (hb hby at_4) rfl (Jvm.Free.XT.i0_eq_t hc4_257) (by decide) (by decide) k) ?_
    show OwnGo p e below (s₁.setTop (mkF m 11 #[.val (.long p1), .second, .val (.long p2), .second, .val (.long p3), .second, .val (.int p4), .unset, .unset, .unset, .unset, .unset, .unset, .unset, .unset, .unset, .unset, .unset] [])) _
    refine own_back (fun t k => XS.iconst X0.here hx rfl (hb hby at_11) k) ?_
    show OwnGo p e below (s₁.setTop (mkF m 12 #[.val (.long p1), .second, .val (.long p2), .second, .val (.long p3), .second, .val (.int p4), .unset, .unset, .unset, .unset, .unset, .unset, .unset, .unset, .unset, .unset, .unset] [(.int (0 : Int32))])) _
    refine own_back (fun t k => XS.istore X0.here hx rfl (hb hby at_12) rfl (l' := #[.val (.long p1), .second, .val (.long p2), .second, .val (.long p3), .second, .val (.int p4), .val (.int (0 : Int32)), .unset, .unset, .unset, .unset, .unset, .unset, .unset, .unset, .unset, .unset]) rfl k) ?_
    show OwnGo p e below (s₁.setTop (mkF m 14 #[.val (.long p1), .second, .val (.long p2), .second, .val (.long p3), .second, .val (.int p4), .val (.int (0 : Int32)), .unset, .unset, .unset, .unset, .unset, .unset, .unset, .unset, .unset, .unset] [])) _
    refine own_back (fun t k => XS.iload X0.here hx rfl (hb hby at_14) rfl k) ?_
    show OwnGo p e below (s₁.setTop (mkF m 16 #[.val (.long p1), .second, .val (.long p2), .second, .val (.long p3), .second, .val (.int p4), .val (.int (0 : Int32)), .unset, .unset, .unset, .unset, .unset, .unset, .unset, .unset, .unset, .unset] [(.int p4)])) _
    refine own_back (fun t k => XS.iconst X0.here hx rfl (hb hby at_16) k) ?_
    show OwnGo p e below (s₁.setTop (mkF m 17 #[.val (.long p1), .second, .val (.long p2), .second, .val (.long p3), .second, .val (.int p4), .val (.int (0 : Int32)), .unset, .unset, .unset, .unset, .unset, .unset, .unset, .unset, .unset, .unset] [(.int (2 : Int32)), (.int p4)])) _
    refine own_back (fun t k => XS.iand X0.here hx rfl (hb hby at_17) rfl k) ?_
    show OwnGo p e below (s₁.setTop (mkF m 18 #[.val (.long p1), .second, .val (.long p2), .second, .val (.long p3), .second, .val (.int p4), .val (.int (0 : Int32)), .unset, .unset, .unset, .unset, .unset, .unset, .unset, .unset, .unset, .unset] [(.int (p4 &&& (2 : Int32)))])) _
    by_cases hc18_258 : (p4 &&& (2 : Int32)) = (0 : Int32)
    · refine own_back (fun t k => XS.ifYes X0.here hx rfl (pc0 := 18) (pc' := 25) rfl (hb hby at_18) rfl (Jvm.Free.XT.i0_eq_t hc18_258) (by decide) (by decide) k) ?_
      show OwnGo p e below (s₁.setTop (mkF m 25 #[.val (.long p1), .second, .val (.long p2), .second, .val (.long p3), .second, .val (.int p4), .val (.int (0 : Int32)), .unset, .unset, .unset, .unset, .unset, .unset, .unset, .unset, .unset, .unset] [])) _
      refine own_back (fun t k => XS.iconst X0.here hx rfl (hb hby at_25) k) ?_
      show OwnGo p e below (s₁.setTop (mkF m 26 #[.val (.long p1), .second, .val (.long p2), .second, .val (.long p3), .second, .val (.int p4), .val (.int (0 : Int32)), .unset, .unset, .unset, .unset, .unset, .unset, .unset, .unset, .unset, .unset] [(.int (0 : Int32))])) _
      refine own_back (fun t k => XS.istore X0.here hx rfl (hb hby at_26) rfl (l' := #[.val (.long p1), .second, .val (.long p2), .second, .val (.long p3), .second, .val (.int p4), .val (.int (0 : Int32)), .val (.int (0 : Int32)), .unset, .unset, .unset, .unset, .unset, .unset, .unset, .unset, .unset]) rfl k) ?_
      show OwnGo p e below (s₁.setTop (mkF m 28 #[.val (.long p1), .second, .val (.long p2), .second, .val (.long p3), .second, .val (.int p4), .val (.int (0 : Int32)), .val (.int (0 : Int32)), .unset, .unset, .unset, .unset, .unset, .unset, .unset, .unset, .unset] [])) _
      refine own_back (fun t k => XS.iload X0.here hx rfl (hb hby at_28) rfl k) ?_
      show OwnGo p e below (s₁.setTop (mkF m 30 #[.val (.long p1), .second, .val (.long p2), .second, .val (.long p3), .second, .val (.int p4), .val (.int (0 : Int32)), .val (.int (0 : Int32)), .unset, .unset, .unset, .unset, .unset, .unset, .unset, .unset, .unset] [(.int (0 : Int32))])) _
      refine own_back (fun t k => XS.ifYes X0.here hx rfl (pc0 := 30) (pc' := 90) rfl (hb hby at_30) rfl (Jvm.Free.XT.i0_eq_t (by decide)) (by decide) (by decide) k) ?_
      show OwnGo p e below (s₁.setTop (mkF m 90 #[.val (.long p1), .second, .val (.long p2), .second, .val (.long p3), .second, .val (.int p4), .val (.int (0 : Int32)), .val (.int (0 : Int32)), .unset, .unset, .unset, .unset, .unset, .unset, .unset, .unset, .unset] [])) _
      refine own_back (fun t k => XS.lconst X0.here hx rfl (hb hby at_90) k) ?_
      show OwnGo p e below (s₁.setTop (mkF m 91 #[.val (.long p1), .second, .val (.long p2), .second, .val (.long p3), .second, .val (.int p4), .val (.int (0 : Int32)), .val (.int (0 : Int32)), .unset, .unset, .unset, .unset, .unset, .unset, .unset, .unset, .unset] [(.long (0 : Int64))])) _
      refine own_back (fun t k => XS.lstore X0.here hx rfl (hb hby at_91) rfl (l' := #[.val (.long p1), .second, .val (.long p2), .second, .val (.long p3), .second, .val (.int p4), .val (.int (0 : Int32)), .val (.int (0 : Int32)), .val (.long (0 : Int64)), .second, .unset, .unset, .unset, .unset, .unset, .unset, .unset]) rfl k) ?_
      show OwnGo p e below (s₁.setTop (mkF m 93 #[.val (.long p1), .second, .val (.long p2), .second, .val (.long p3), .second, .val (.int p4), .val (.int (0 : Int32)), .val (.int (0 : Int32)), .val (.long (0 : Int64)), .second, .unset, .unset, .unset, .unset, .unset, .unset, .unset] [])) _
      refine own_back (fun t k => XS.lloadN X0.here hx rfl (hb hby at_93) rfl k) ?_
      show OwnGo p e below (s₁.setTop (mkF m 94 #[.val (.long p1), .second, .val (.long p2), .second, .val (.long p3), .second, .val (.int p4), .val (.int (0 : Int32)), .val (.int (0 : Int32)), .val (.long (0 : Int64)), .second, .unset, .unset, .unset, .unset, .unset, .unset, .unset] [(.long p1)])) _
      refine own_back (fun t k => X0.ldc2Long hx hown (mvT hZ (hw _ (List.mem_of_getElem? (i := 99) rfl))) (g := (mkF m 94 #[.val (.long p1), .second, .val (.long p2), .second, .val (.long p3), .second, .val (.int p4), .val (.int (0 : Int32)), .val (.int (0 : Int32)), .val (.long (0 : Int64)), .second, .unset, .unset, .unset, .unset, .unset, .unset, .unset] [(.long p1)])) rfl (hb hby at_94) t k) ?_
      show OwnGo p e below (s₁.setTop (mkF m 97 #[.val (.long p1), .second, .val (.long p2), .second, .val (.long p3), .second, .val (.int p4), .val (.int (0 : Int32)), .val (.int (0 : Int32)), .val (.long (0 : Int64)), .second, .unset, .unset, .unset, .unset, .unset, .unset, .unset] [(.long (9007199254740991 : Int64)), (.long p1)])) _
      refine own_back (fun t k => XS.land X0.here hx rfl (hb hby at_97) rfl k) ?_
      show OwnGo p e below (s₁.setTop (mkF m 98 #[.val (.long p1), .second, .val (.long p2), .second, .val (.long p3), .second, .val (.int p4), .val (.int (0 : Int32)), .val (.int (0 : Int32)), .val (.long (0 : Int64)), .second, .unset, .unset, .unset, .unset, .unset, .unset, .unset] [(.long (p1 &&& (9007199254740991 : Int64)))])) _
      refine own_back (fun t k => XS.lconst X0.here hx rfl (hb hby at_98) k) ?_
      show OwnGo p e below (s₁.setTop (mkF m 99 #[.val (.long p1), .second, .val (.long p2), .second, .val (.long p3), .second, .val (.int p4), .val (.int (0 : Int32)), .val (.int (0 : Int32)), .val (.long (0 : Int64)), .second, .unset, .unset, .unset, .unset, .unset, .unset, .unset] [(.long (1 : Int64)), (.long (p1 &&& (9007199254740991 : Int64)))])) _
      refine own_back (fun t k => XS.ladd X0.here hx rfl (hb hby at_99) rfl k) ?_
      show OwnGo p e below (s₁.setTop (mkF m 100 #[.val (.long p1), .second, .val (.long p2), .second, .val (.long p3), .second, .val (.int p4), .val (.int (0 : Int32)), .val (.int (0 : Int32)), .val (.long (0 : Int64)), .second, .unset, .unset, .unset, .unset, .unset, .unset, .unset] [(.long ((p1 &&& (9007199254740991 : Int64)) + (1 : Int64)))])) _
      refine own_back (fun t k => XS.lstore X0.here hx rfl (hb hby at_100) rfl (l' := #[.val (.long p1), .second, .val (.long p2), .second, .val (.long p3), .second, .val (.int p4), .val (.int (0 : Int32)), .val (.int (0 : Int32)), .val (.long (0 : Int64)), .second, .val (.long ((p1 &&& (9007199254740991 : Int64)) + (1 : Int64))), .second, .unset, .unset, .unset, .unset, .unset]) rfl k) ?_
      show OwnGo p e below (s₁.setTop (mkF m 102 #[.val (.long p1), .second, .val (.long p2), .second, .val (.long p3), .second, .val (.int p4), .val (.int (0 : Int32)), .val (.int (0 : Int32)), .val (.long (0 : Int64)), .second, .val (.long ((p1 &&& (9007199254740991 : Int64)) + (1 : Int64))), .second, .unset, .unset, .unset, .unset, .unset] [])) _
      have hs2 := own_s2 p1
      obtain ⟨sz, esz⟩ : ∃ z : Int64, z = ((p1 &&& (9007199254740991 : Int64)) + (1 : Int64)) := ⟨_, rfl⟩
      rw [← esz] at hs2
      rw [← esz]
      have hs1 := hs2.1
      show OwnGo p e below (s₁.setTop (mkF m 102 #[.val (.long p1), .second, .val (.long p2), .second, .val (.long p3), .second, .val (.int p4), .val (.int (0 : Int32)), .val (.int (0 : Int32)), .val (.long (0 : Int64)), .second, .val (.long sz), .second, .unset, .unset, .unset, .unset, .unset] [])) _
      obtain ⟨T259, h259, X259, e259, E259, A259, D259, -, st259⟩ := newO X0 hx hZ hown (hw _ (List.mem_of_getElem? (i := 100) rfl)) (hw _ (List.mem_of_getElem? (i := 22) rfl)) (hw _ (List.mem_of_getElem? (i := 17) rfl)) e0 (g := (mkF m 102 #[.val (.long p1), .second, .val (.long p2), .second, .val (.long p3), .second, .val (.int p4), .val (.int (0 : Int32)), .val (.int (0 : Int32)), .val (.long (0 : Int64)), .second, .val (.long sz), .second, .unset, .unset, .unset, .unset, .unset] [])) rfl (hb hby at_102) (Nat.le_of_ble_eq_true rfl) (Nat.le_of_ble_eq_true rfl)
      obtain ⟨b259, g259⟩ : ∃ z, z = h0.size := ⟨_, rfl⟩
      have ge260 : n0 ≤ b259 := Nat.le_trans Z0 (Nat.le_of_eq g259.symm)
      have sz261 : h0.size ≤ b259 := Nat.le_trans KP0.1 (Nat.le_of_eq g259.symm)
      rw [← g259] at A259 D259 st259
      have O262 := OL.ext E259
      have KP263 := KP0.ext E259
      have Zs264 := Nat.le_trans Z0 E259.1
      have CR265 := CR0.trans (CHr.ext E259 CR0.1)
      have hk266 := Nat.le_trans hk0 E259.1
      have F267 : Fld Z h259 b259 "com/example/sorted_set_patterns/sortedsetpatterns/Field" "name" "Ljava/lang/String;" .null := D259 (Or.inr (hw _ (List.mem_of_getElem? (i := 79) rfl))) (ty := (.object "java/lang/String")) (by decide)
      have F268 : Fld Z h259 b259 "com/example/sorted_set_patterns/sortedsetpatterns/Field" "min" "J" (.long (0 : Int64)) := D259 (Or.inr (hw _ (List.mem_of_getElem? (i := 81) rfl))) (ty := .long) (by decide)
      have F269 : Fld Z h259 b259 "com/example/sorted_set_patterns/sortedsetpatterns/Field" "max" "J" (.long (0 : Int64)) := D259 (Or.inr (hw _ (List.mem_of_getElem? (i := 83) rfl))) (ty := .long) (by decide)
      have F270 : Fld Z h259 b259 "com/example/sorted_set_patterns/sortedsetpatterns/Field" "order" "Lcom/example/sorted_set_patterns/sortedsetpatterns/Field$Order;" .null := D259 (Or.inr (hw _ (List.mem_of_getElem? (i := 89) rfl))) (ty := (.object "com/example/sorted_set_patterns/sortedsetpatterns/Field$Order")) (by decide)
      have F271 : Fld Z h259 b259 "com/example/sorted_set_patterns/sortedsetpatterns/Field" "instant" "Z" (.int (0 : Int32)) := D259 (Or.inr (hw _ (List.mem_of_getElem? (i := 91) rfl))) (ty := .boolean) (by decide)
      have sf272 := Safe.ext E259 CR0.1 (Safe.new (Nat.le_of_eq g259.symm))
      refine own_back st259 ?_
      show OwnGo p e below (T259.setTop (mkF m 105 #[.val (.long p1), .second, .val (.long p2), .second, .val (.long p3), .second, .val (.int p4), .val (.int (0 : Int32)), .val (.int (0 : Int32)), .val (.long (0 : Int64)), .second, .val (.long sz), .second, .unset, .unset, .unset, .unset, .unset] [(.ref b259)])) _
      refine own_back (fun t k => XS.dup X259.here hx rfl (hb hby at_105) rfl rfl k) ?_
      show OwnGo p e below (T259.setTop (mkF m 106 #[.val (.long p1), .second, .val (.long p2), .second, .val (.long p3), .second, .val (.int p4), .val (.int (0 : Int32)), .val (.int (0 : Int32)), .val (.long (0 : Int64)), .second, .val (.long sz), .second, .unset, .unset, .unset, .unset, .unset] [(.ref b259), (.ref b259)])) _
      obtain ⟨a273, T273, h273, k1273, t273, kb273, X273, e273, E273, hS273, hk273, hZ273, hown273, EX273, FC273, FV273, AV273, la273, lb273, CRl273, hLit273, sx273, st273⟩ := ldcCH X259 hx hZ hown (hw _ (List.mem_of_getElem? (i := 101) rfl)) (own_wS hw) e259 hS0 hk266 hEL (List.mem_of_getElem? (i := 3) rfl) CR265.1 (vs := [(.int 99)]) (z := 1) ⟨by decide, by decide⟩ (by decide) (by decide) (g := (mkF m 106 #[.val (.long p1), .second, .val (.long p2), .second, .val (.long p3), .second, .val (.int p4), .val (.int (0 : Int32)), .val (.int (0 : Int32)), .val (.long (0 : Int64)), .second, .val (.long sz), .second, .unset, .unset, .unset, .unset, .unset] [(.ref b259), (.ref b259)])) rfl (hb hby at_106) (n := 4) (Nat.le_of_ble_eq_true rfl) (by decide) (Nat.le_of_ble_eq_true rfl) (Nat.le_of_ble_eq_true rfl)
      have O274 := O262.ext E273
      have KP275 := KP263.ext E273
      have Zs276 := Nat.le_trans Zs264 E273.1
      have CR277 := CR265.trans CRl273
      have f278 := A259.ext E273
      have f279 := F267.ext E273
      have f280 := F268.ext E273
      have f281 := F269.ext E273
      have f282 := F270.ext E273
      have f283 := F271.ext E273
      have f284 := (CRl273.safe A259.lt sf272)
      refine own_back st273 ?_
      show OwnGo p e below (T273.setTop (mkF m 108 #[.val (.long p1), .second, .val (.long p2), .second, .val (.long p3), .second, .val (.int p4), .val (.int (0 : Int32)), .val (.int (0 : Int32)), .val (.long (0 : Int64)), .second, .val (.long sz), .second, .unset, .unset, .unset, .unset, .unset] [(.ref a273), (.ref b259), (.ref b259)])) _
      refine own_back (fun t k => XS.lload X273.here hx rfl (hb hby at_108) rfl k) ?_
      show OwnGo p e below (T273.setTop (mkF m 110 #[.val (.long p1), .second, .val (.long p2), .second, .val (.long p3), .second, .val (.int p4), .val (.int (0 : Int32)), .val (.int (0 : Int32)), .val (.long (0 : Int64)), .second, .val (.long sz), .second, .unset, .unset, .unset, .unset, .unset] [(.long sz), (.ref a273), (.ref b259), (.ref b259)])) _
      refine own_back (fun t k => XS.lconst X273.here hx rfl (hb hby at_110) k) ?_
      show OwnGo p e below (T273.setTop (mkF m 111 #[.val (.long p1), .second, .val (.long p2), .second, .val (.long p3), .second, .val (.int p4), .val (.int (0 : Int32)), .val (.int (0 : Int32)), .val (.long (0 : Int64)), .second, .val (.long sz), .second, .unset, .unset, .unset, .unset, .unset] [(.long (1 : Int64)), (.long sz), (.ref a273), (.ref b259), (.ref b259)])) _
      refine own_back (fun t k => XS.lsub X273.here hx rfl (hb hby at_111) rfl k) ?_
      show OwnGo p e below (T273.setTop (mkF m 112 #[.val (.long p1), .second, .val (.long p2), .second, .val (.long p3), .second, .val (.int p4), .val (.int (0 : Int32)), .val (.int (0 : Int32)), .val (.long (0 : Int64)), .second, .val (.long sz), .second, .unset, .unset, .unset, .unset, .unset] [(.long (sz - (1 : Int64))), (.ref a273), (.ref b259), (.ref b259)])) _
      refine own_back (fun t k => XS.iload X273.here hx rfl (hb hby at_112) rfl k) ?_
      show OwnGo p e below (T273.setTop (mkF m 114 #[.val (.long p1), .second, .val (.long p2), .second, .val (.long p3), .second, .val (.int p4), .val (.int (0 : Int32)), .val (.int (0 : Int32)), .val (.long (0 : Int64)), .second, .val (.long sz), .second, .unset, .unset, .unset, .unset, .unset] [(.int (0 : Int32)), (.long (sz - (1 : Int64))), (.ref a273), (.ref b259), (.ref b259)])) _
      refine own_back (fun t k => XS.ifYes X273.here hx rfl (pc0 := 114) (pc' := 123) rfl (hb hby at_114) rfl (Jvm.Free.XT.i0_eq_t (by decide)) (by decide) (by decide) k) ?_
      show OwnGo p e below (T273.setTop (mkF m 123 #[.val (.long p1), .second, .val (.long p2), .second, .val (.long p3), .second, .val (.int p4), .val (.int (0 : Int32)), .val (.int (0 : Int32)), .val (.long (0 : Int64)), .second, .val (.long sz), .second, .unset, .unset, .unset, .unset, .unset] [(.long (sz - (1 : Int64))), (.ref a273), (.ref b259), (.ref b259)])) _
      obtain ⟨T285, X285, e285, st285⟩ := getS2 X273 hx hZ273 hown273 (host := "") (Or.inl (hw _ (List.mem_of_getElem? (i := 102) rfl))) Via.refl e273 (SL.ext O274.2) (g := (mkF m 123 #[.val (.long p1), .second, .val (.long p2), .second, .val (.long p3), .second, .val (.int p4), .val (.int (0 : Int32)), .val (.int (0 : Int32)), .val (.long (0 : Int64)), .second, .val (.long sz), .second, .unset, .unset, .unset, .unset, .unset] [(.long (sz - (1 : Int64))), (.ref a273), (.ref b259), (.ref b259)])) rfl (hb hby at_123)
      refine own_back st285 ?_
      show OwnGo p e below (T285.setTop (mkF m 126 #[.val (.long p1), .second, .val (.long p2), .second, .val (.long p3), .second, .val (.int p4), .val (.int (0 : Int32)), .val (.int (0 : Int32)), .val (.long (0 : Int64)), .second, .val (.long sz), .second, .unset, .unset, .unset, .unset, .unset] [(.ref wo), (.long (sz - (1 : Int64))), (.ref a273), (.ref b259), (.ref b259)])) _
      obtain ⟨_, _, ⟨T286, L286, k286, n286⟩, -, X286, hSn286, hgr286, ⟨Lc286, hQ286, l286, y286, z286, CRn286⟩, st286⟩ := X285.specialBackS hx (y := (⟨"com/example/sorted_set_patterns/sortedsetpatterns/Field", "<init>", "(Ljava/lang/String;JLcom/example/sorted_set_patterns/sortedsetpatterns/Field$Order;)V"⟩ : MethodName)) rfl hown273 (mvT hZ273 (hw _ (List.mem_of_getElem? (i := 103) rfl))) (mvT hZ273 (hw _ (List.mem_of_getElem? (i := 104) rfl))) (mvT hZ273 (hw _ (List.mem_of_getElem? (i := 105) rfl))) (by decide) (own_backH (W := 1) (rm_f3 l Z a0 hw [] b259 a273 99 (sz - (1 : Int64)) wo .null (.long 0) (.long 0) .null (.int 0) cz fm h273 n0 Zs276 O274 f278 f279 f280 f281 f282 f283 ge260 (⟨_, _, EX273, FC273, FV273, AV273, by decide⟩ : OwnStr Z h273 a273 [99]) EO SC hcz SO hfm hs2.2.1 hs2.2.2) hZ273 (hw _ (List.mem_of_getElem? (i := 105) rfl)) (hw _ (List.mem_of_getElem? (i := 17) rfl)) (by decide) (by decide) hEL CR277.1 sf0 all0) (g := (mkF m 126 #[.val (.long p1), .second, .val (.long p2), .second, .val (.long p3), .second, .val (.int p4), .val (.int (0 : Int32)), .val (.int (0 : Int32)), .val (.long (0 : Int64)), .second, .val (.long sz), .second, .unset, .unset, .unset, .unset, .unset] [(.ref wo), (.long (sz - (1 : Int64))), (.ref a273), (.ref b259), (.ref b259)])) rfl (by rw [hml]; rfl) (Steps.refl _) (a := b259) (argsL := [(.ref a273), (.long (sz - (1 : Int64))), (.ref wo)]) (rest := [(.ref b259)]) (lenOf lw_pd0 rfl) rfl (by show 2 * 0 + _ ≤ _; exact Nat.le_of_eq rfl) (hb hby at_126) (fun _ _ => ⟨rfl, e285, Nat.le_of_ble_eq_true rfl, Nat.le_of_ble_eq_true rfl⟩)
      dsimp only [Pt.U, Pt.locs, Pt.cells, Pt.slots] at X286 l286 y286 z286 st286 hQ286 hSn286 hgr286 CRn286
      subst l286 y286 z286
      obtain ⟨Xr286, hSr286, hZr286, hownr286⟩ := rebS hS273 (own_hle e285 hk273) X286 hSn286 hgr286 hZ273 hown273
      obtain ⟨rfl, N286q, K286, Fmin286, Fmax286, Ford286⟩ := hQ286
      refine own_seq st286 ?_
      have N286 := Fr.app N0 N286q
      have O287 := O274.keep K286 (allS ge260 all0)
      have KP288 := KP275.trans K286 (allS (Or.inr sz261) all0)
      have Zs289 := Nat.le_trans Zs276 K286.1
      have CR290 := CR277.trans CRn286
      have f291 := f278.keep K286
      have f292 := (CRn286.safe f278.lt f284)
      have f293 := EX273.keep K286
      have f294 := FC273.keep K286 (ninS (Ne.symm (sx273 b259 f284).1) nin0)
      have f295 := FV273.keep K286 (ninS (Ne.symm (sx273 b259 f284).1) nin0)
      have f296 := AV273.keep K286 (ninS (Ne.symm (sx273 b259 f284).2) nin0)
      show OwnGo p e below (T286.setTop (mkF m 129 #[.val (.long p1), .second, .val (.long p2), .second, .val (.long p3), .second, .val (.int p4), .val (.int (0 : Int32)), .val (.int (0 : Int32)), .val (.long (0 : Int64)), .second, .val (.long sz), .second, .unset, .unset, .unset, .unset, .unset] [(.ref b259)])) _
      refine own_back (fun t k => XS.astore Xr286.here hx rfl (hb hby at_129) rfl rfl (l' := #[.val (.long p1), .second, .val (.long p2), .second, .val (.long p3), .second, .val (.int p4), .val (.int (0 : Int32)), .val (.int (0 : Int32)), .val (.long (0 : Int64)), .second, .val (.long sz), .second, .val (.ref b259), .unset, .unset, .unset, .unset]) rfl k) ?_
      show OwnGo p e below (T286.setTop (mkF m 131 #[.val (.long p1), .second, .val (.long p2), .second, .val (.long p3), .second, .val (.int p4), .val (.int (0 : Int32)), .val (.int (0 : Int32)), .val (.long (0 : Int64)), .second, .val (.long sz), .second, .val (.ref b259), .unset, .unset, .unset, .unset] [])) _
      refine own_back (fun t k => XS.lload Xr286.here hx rfl (hb hby at_131) rfl k) ?_
      show OwnGo p e below (T286.setTop (mkF m 133 #[.val (.long p1), .second, .val (.long p2), .second, .val (.long p3), .second, .val (.int p4), .val (.int (0 : Int32)), .val (.int (0 : Int32)), .val (.long (0 : Int64)), .second, .val (.long sz), .second, .val (.ref b259), .unset, .unset, .unset, .unset] [(.long p3)])) _
      refine own_back (fun t k => Xr286.ldc2Long hx hownr286 (mvT hZr286 (hw _ (List.mem_of_getElem? (i := 6) rfl))) (g := (mkF m 133 #[.val (.long p1), .second, .val (.long p2), .second, .val (.long p3), .second, .val (.int p4), .val (.int (0 : Int32)), .val (.int (0 : Int32)), .val (.long (0 : Int64)), .second, .val (.long sz), .second, .val (.ref b259), .unset, .unset, .unset, .unset] [(.long p3)])) rfl (hb hby at_133) t k) ?_
      show OwnGo p e below (T286.setTop (mkF m 136 #[.val (.long p1), .second, .val (.long p2), .second, .val (.long p3), .second, .val (.int p4), .val (.int (0 : Int32)), .val (.int (0 : Int32)), .val (.long (0 : Int64)), .second, .val (.long sz), .second, .val (.ref b259), .unset, .unset, .unset, .unset] [(.long (9223372036854775807 : Int64)), (.long p3)])) _
      refine own_back (fun t k => XS.land Xr286.here hx rfl (hb hby at_136) rfl k) ?_
      show OwnGo p e below (T286.setTop (mkF m 137 #[.val (.long p1), .second, .val (.long p2), .second, .val (.long p3), .second, .val (.int p4), .val (.int (0 : Int32)), .val (.int (0 : Int32)), .val (.long (0 : Int64)), .second, .val (.long sz), .second, .val (.ref b259), .unset, .unset, .unset, .unset] [(.long (p3 &&& (9223372036854775807 : Int64)))])) _
      refine own_back (fun t k => XS.lload Xr286.here hx rfl (hb hby at_137) rfl k) ?_
      show OwnGo p e below (T286.setTop (mkF m 139 #[.val (.long p1), .second, .val (.long p2), .second, .val (.long p3), .second, .val (.int p4), .val (.int (0 : Int32)), .val (.int (0 : Int32)), .val (.long (0 : Int64)), .second, .val (.long sz), .second, .val (.ref b259), .unset, .unset, .unset, .unset] [(.long sz), (.long (p3 &&& (9223372036854775807 : Int64)))])) _
      refine own_back (fun t k => own_lrem Xr286 hx rfl (hb hby at_139) rfl (own_nz hs1) k) ?_
      show OwnGo p e below (T286.setTop (mkF m 140 #[.val (.long p1), .second, .val (.long p2), .second, .val (.long p3), .second, .val (.int p4), .val (.int (0 : Int32)), .val (.int (0 : Int32)), .val (.long (0 : Int64)), .second, .val (.long sz), .second, .val (.ref b259), .unset, .unset, .unset, .unset] [(.long ((p3 &&& (9223372036854775807 : Int64)) % sz))])) _
      refine own_back (fun t k => XS.lstore Xr286.here hx rfl (hb hby at_140) rfl (l' := #[.val (.long p1), .second, .val (.long p2), .second, .val (.long p3), .second, .val (.int p4), .val (.int (0 : Int32)), .val (.int (0 : Int32)), .val (.long (0 : Int64)), .second, .val (.long sz), .second, .val (.ref b259), .val (.long ((p3 &&& (9223372036854775807 : Int64)) % sz)), .second, .unset, .unset]) rfl k) ?_
      show OwnGo p e below (T286.setTop (mkF m 142 #[.val (.long p1), .second, .val (.long p2), .second, .val (.long p3), .second, .val (.int p4), .val (.int (0 : Int32)), .val (.int (0 : Int32)), .val (.long (0 : Int64)), .second, .val (.long sz), .second, .val (.ref b259), .val (.long ((p3 &&& (9223372036854775807 : Int64)) % sz)), .second, .unset, .unset] [])) _
      obtain ⟨ix, eix⟩ : ∃ z : Int64, z = ((p3 &&& (9223372036854775807 : Int64)) % sz) := ⟨_, rfl⟩
      rw [← eix]
      show OwnGo p e below (T286.setTop (mkF m 142 #[.val (.long p1), .second, .val (.long p2), .second, .val (.long p3), .second, .val (.int p4), .val (.int (0 : Int32)), .val (.int (0 : Int32)), .val (.long (0 : Int64)), .second, .val (.long sz), .second, .val (.ref b259), .val (.long ix), .second, .unset, .unset] [])) _
      refine own_back (fun t k => XS.iload Xr286.here hx rfl (hb hby at_142) rfl k) ?_
      show OwnGo p e below (T286.setTop (mkF m 144 #[.val (.long p1), .second, .val (.long p2), .second, .val (.long p3), .second, .val (.int p4), .val (.int (0 : Int32)), .val (.int (0 : Int32)), .val (.long (0 : Int64)), .second, .val (.long sz), .second, .val (.ref b259), .val (.long ix), .second, .unset, .unset] [(.int (0 : Int32))])) _
      refine own_back (fun t k => XS.ifYes Xr286.here hx rfl (pc0 := 144) (pc' := 152) rfl (hb hby at_144) rfl (Jvm.Free.XT.i0_eq_t (by decide)) (by decide) (by decide) k) ?_
      show OwnGo p e below (T286.setTop (mkF m 152 #[.val (.long p1), .second, .val (.long p2), .second, .val (.long p3), .second, .val (.int p4), .val (.int (0 : Int32)), .val (.int (0 : Int32)), .val (.long (0 : Int64)), .second, .val (.long sz), .second, .val (.ref b259), .val (.long ix), .second, .unset, .unset] [])) _
      refine own_back (fun t k => XS.lload Xr286.here hx rfl (hb hby at_152) rfl k) ?_
      show OwnGo p e below (T286.setTop (mkF m 154 #[.val (.long p1), .second, .val (.long p2), .second, .val (.long p3), .second, .val (.int p4), .val (.int (0 : Int32)), .val (.int (0 : Int32)), .val (.long (0 : Int64)), .second, .val (.long sz), .second, .val (.ref b259), .val (.long ix), .second, .unset, .unset] [(.long sz)])) _
      refine own_back (fun t k => XS.lconst Xr286.here hx rfl (hb hby at_154) k) ?_
      show OwnGo p e below (T286.setTop (mkF m 155 #[.val (.long p1), .second, .val (.long p2), .second, .val (.long p3), .second, .val (.int p4), .val (.int (0 : Int32)), .val (.int (0 : Int32)), .val (.long (0 : Int64)), .second, .val (.long sz), .second, .val (.ref b259), .val (.long ix), .second, .unset, .unset] [(.long (1 : Int64)), (.long sz)])) _
      refine own_back (fun t k => XS.lsub Xr286.here hx rfl (hb hby at_155) rfl k) ?_
      show OwnGo p e below (T286.setTop (mkF m 156 #[.val (.long p1), .second, .val (.long p2), .second, .val (.long p3), .second, .val (.int p4), .val (.int (0 : Int32)), .val (.int (0 : Int32)), .val (.long (0 : Int64)), .second, .val (.long sz), .second, .val (.ref b259), .val (.long ix), .second, .unset, .unset] [(.long (sz - (1 : Int64)))])) _
      refine own_back (fun t k => XS.lload Xr286.here hx rfl (hb hby at_156) rfl k) ?_
      show OwnGo p e below (T286.setTop (mkF m 158 #[.val (.long p1), .second, .val (.long p2), .second, .val (.long p3), .second, .val (.int p4), .val (.int (0 : Int32)), .val (.int (0 : Int32)), .val (.long (0 : Int64)), .second, .val (.long sz), .second, .val (.ref b259), .val (.long ix), .second, .unset, .unset] [(.long ix), (.long (sz - (1 : Int64)))])) _
      refine own_back (fun t k => XS.lsub Xr286.here hx rfl (hb hby at_158) rfl k) ?_
      show OwnGo p e below (T286.setTop (mkF m 159 #[.val (.long p1), .second, .val (.long p2), .second, .val (.long p3), .second, .val (.int p4), .val (.int (0 : Int32)), .val (.int (0 : Int32)), .val (.long (0 : Int64)), .second, .val (.long sz), .second, .val (.ref b259), .val (.long ix), .second, .unset, .unset] [(.long ((sz - (1 : Int64)) - ix))])) _
      refine own_back (fun t k => XS.lstore Xr286.here hx rfl (hb hby at_159) rfl (l' := #[.val (.long p1), .second, .val (.long p2), .second, .val (.long p3), .second, .val (.int p4), .val (.int (0 : Int32)), .val (.int (0 : Int32)), .val (.long (0 : Int64)), .second, .val (.long sz), .second, .val (.ref b259), .val (.long ix), .second, .val (.long ((sz - (1 : Int64)) - ix)), .second]) rfl k) ?_
      show OwnGo p e below (T286.setTop (mkF m 161 #[.val (.long p1), .second, .val (.long p2), .second, .val (.long p3), .second, .val (.int p4), .val (.int (0 : Int32)), .val (.int (0 : Int32)), .val (.long (0 : Int64)), .second, .val (.long sz), .second, .val (.ref b259), .val (.long ix), .second, .val (.long ((sz - (1 : Int64)) - ix)), .second] [])) _
      refine own_back (fun t k => XS.aload Xr286.here hx rfl (hb hby at_161) rfl rfl k) ?_
      show OwnGo p e below (T286.setTop (mkF m 163 #[.val (.long p1), .second, .val (.long p2), .second, .val (.long p3), .second, .val (.int p4), .val (.int (0 : Int32)), .val (.int (0 : Int32)), .val (.long (0 : Int64)), .second, .val (.long sz), .second, .val (.ref b259), .val (.long ix), .second, .val (.long ((sz - (1 : Int64)) - ix)), .second] [(.ref b259)])) _
      refine own_back (fun t k => XS.lload Xr286.here hx rfl (hb hby at_163) rfl k) ?_
      show OwnGo p e below (T286.setTop (mkF m 165 #[.val (.long p1), .second, .val (.long p2), .second, .val (.long p3), .second, .val (.int p4), .val (.int (0 : Int32)), .val (.int (0 : Int32)), .val (.long (0 : Int64)), .second, .val (.long sz), .second, .val (.ref b259), .val (.long ix), .second, .val (.long ((sz - (1 : Int64)) - ix)), .second] [(.long (0 : Int64)), (.ref b259)])) _
      refine own_back (fun t k => XS.lload Xr286.here hx rfl (hb hby at_165) rfl k) ?_
      show OwnGo p e below (T286.setTop (mkF m 167 #[.val (.long p1), .second, .val (.long p2), .second, .val (.long p3), .second, .val (.int p4), .val (.int (0 : Int32)), .val (.int (0 : Int32)), .val (.long (0 : Int64)), .second, .val (.long sz), .second, .val (.ref b259), .val (.long ix), .second, .val (.long ((sz - (1 : Int64)) - ix)), .second] [(.long ix), (.long (0 : Int64)), (.ref b259)])) _
      refine own_back (fun t k => XS.ladd Xr286.here hx rfl (hb hby at_167) rfl k) ?_
      show OwnGo p e below (T286.setTop (mkF m 168 #[.val (.long p1), .second, .val (.long p2), .second, .val (.long p3), .second, .val (.int p4), .val (.int (0 : Int32)), .val (.int (0 : Int32)), .val (.long (0 : Int64)), .second, .val (.long sz), .second, .val (.ref b259), .val (.long ix), .second, .val (.long ((sz - (1 : Int64)) - ix)), .second] [(.long ((0 : Int64) + ix)), (.ref b259)])) _
      obtain ⟨cq297, kq297, q297a, q297b, q297c⟩ := isOf hZr286 rfl f291
      obtain ⟨_, _, ⟨T297, L297, k297, n297⟩, -, X297, ⟨Lc297, hQ297, l297, y297, z297⟩, st297⟩ := Xr286.virtualBack hx (y := (⟨"com/example/sorted_set_patterns/sortedsetpatterns/Field", "digit", "(J)J"⟩ : MethodName)) (z := (⟨"com/example/sorted_set_patterns/sortedsetpatterns/Field", "digit", "(J)J"⟩ : MethodName)) hownr286 (mvT hZr286 (hw _ (List.mem_of_getElem? (i := 92) rfl))) (mvT hZr286 (hw _ (List.mem_of_getElem? (i := 93) rfl))) (notFace_of_selects (args := #[]) (mvT hZr286 (hw _ (List.mem_of_getElem? (i := 95) rfl)))) (mvT hZr286 (hw _ (List.mem_of_getElem? (i := 95) rfl))) (mvT hZr286 (hw _ (List.mem_of_getElem? (i := 94) rfl))) (by decide) (own_backN (W := 0) (rm_dg l Z a0 hw [] b259 ((0 : Int64) + ix) (0 : Int64) (sz - (1 : Int64)) wo wh T286.heap n0 Zs289 O287 Fmin286 Fmax286 Ford286 SH) hZr286 (hw _ (List.mem_of_getElem? (i := 96) rfl)) (hw _ (List.mem_of_getElem? (i := 17) rfl)) (by decide) (by decide)) q297a q297c (g := (mkF m 168 #[.val (.long p1), .second, .val (.long p2), .second, .val (.long p3), .second, .val (.int p4), .val (.int (0 : Int32)), .val (.int (0 : Int32)), .val (.long (0 : Int64)), .second, .val (.long sz), .second, .val (.ref b259), .val (.long ix), .second, .val (.long ((sz - (1 : Int64)) - ix)), .second] [(.long ((0 : Int64) + ix)), (.ref b259)])) rfl (by rw [hml]; rfl) (Steps.refl _) (argsL := [(.long ((0 : Int64) + ix))]) (rest := []) (lenOf lw_pd1 rfl) rfl (by show 2 * 0 + _ ≤ _; exact Nat.le_of_eq rfl) (hb hby at_168) (fun _ _ => ⟨rfl, rfl, Nat.le_of_ble_eq_true rfl, Nat.le_of_ble_eq_true rfl⟩)
      dsimp only [Pt.U, Pt.locs, Pt.cells, Pt.slots] at X297 l297 y297 z297 st297 hQ297
      subst l297 y297 z297
      rw [if_neg hne, own_fin2 sz ix] at hQ297
      obtain ⟨rfl, N297q, hh297⟩ := hQ297
      refine own_seq st297 ?_
      have N297 := Fr.app N286 N297q
      show OwnGo p e below (T297.setTop (mkF m 171 #[.val (.long p1), .second, .val (.long p2), .second, .val (.long p3), .second, .val (.int p4), .val (.int (0 : Int32)), .val (.int (0 : Int32)), .val (.long (0 : Int64)), .second, .val (.long sz), .second, .val (.ref b259), .val (.long ix), .second, .val (.long ((sz - (1 : Int64)) - ix)), .second] [(.long ((sz - (1 : Int64)) - ix))])) _
      refine own_back (fun t k => XS.lload X297.here hx rfl (hb hby at_171) rfl k) ?_
      show OwnGo p e below (T297.setTop (mkF m 173 #[.val (.long p1), .second, .val (.long p2), .second, .val (.long p3), .second, .val (.int p4), .val (.int (0 : Int32)), .val (.int (0 : Int32)), .val (.long (0 : Int64)), .second, .val (.long sz), .second, .val (.ref b259), .val (.long ix), .second, .val (.long ((sz - (1 : Int64)) - ix)), .second] [(.long ((sz - (1 : Int64)) - ix)), (.long ((sz - (1 : Int64)) - ix))])) _
      refine own_back (fun t k => XT.lcmp X297.here hx rfl (hb hby at_173) rfl k) ?_
      show OwnGo p e below (T297.setTop (mkF m 174 #[.val (.long p1), .second, .val (.long p2), .second, .val (.long p3), .second, .val (.int p4), .val (.int (0 : Int32)), .val (.int (0 : Int32)), .val (.long (0 : Int64)), .second, .val (.long sz), .second, .val (.ref b259), .val (.long ix), .second, .val (.long ((sz - (1 : Int64)) - ix)), .second] [(.int (XT.cmpL ((sz - (1 : Int64)) - ix) ((sz - (1 : Int64)) - ix)))])) _
      refine own_back (fun t k => XS.ifNo X297.here hx rfl (hb hby at_174) rfl (Jvm.Free.XT.ll_ne_f rfl) k) ?_
      show OwnGo p e below (T297.setTop (mkF m 177 #[.val (.long p1), .second, .val (.long p2), .second, .val (.long p3), .second, .val (.int p4), .val (.int (0 : Int32)), .val (.int (0 : Int32)), .val (.long (0 : Int64)), .second, .val (.long sz), .second, .val (.ref b259), .val (.long ix), .second, .val (.long ((sz - (1 : Int64)) - ix)), .second] [])) _
      refine own_back (fun t k => XS.iconst X297.here hx rfl (hb hby at_177) k) ?_
      show OwnGo p e below (T297.setTop (mkF m 178 #[.val (.long p1), .second, .val (.long p2), .second, .val (.long p3), .second, .val (.int p4), .val (.int (0 : Int32)), .val (.int (0 : Int32)), .val (.long (0 : Int64)), .second, .val (.long sz), .second, .val (.ref b259), .val (.long ix), .second, .val (.long ((sz - (1 : Int64)) - ix)), .second] [(.int (1 : Int32))])) _
      refine own_back (fun t k => XS.goto X297.here hx rfl (pc0 := 178) (pc' := 182) rfl (hb hby at_178) (by decide) (by decide) k) ?_
      show OwnGo p e below (T297.setTop (mkF m 182 #[.val (.long p1), .second, .val (.long p2), .second, .val (.long p3), .second, .val (.int p4), .val (.int (0 : Int32)), .val (.int (0 : Int32)), .val (.long (0 : Int64)), .second, .val (.long sz), .second, .val (.ref b259), .val (.long ix), .second, .val (.long ((sz - (1 : Int64)) - ix)), .second] [(.int (1 : Int32))])) _
      refine own_retNW X297 hx Bd.notSynchronized (t := .boolean) (z := (1 : Int32)) Bd.returns (by simp) rfl hSr286 (Nat.le_refl _) hZr286 hEL (hh ▸ CR290) (hb hby at_182) hh297 (Nat.le_of_ble_eq_true rfl) (Nat.le_of_ble_eq_true rfl) ?_
      exact ⟨rfl, N297⟩
    · refine own_back (fun t k => XS.ifNo X0.here hx rfl (hb hby at_18) rfl (Jvm.Free.XT.i0_eq_f hc18_258) k) ?_
      show OwnGo p e below (s₁.setTop (mkF m 21 #[.val (.long p1), .second, .val (.long p2), .second, .val (.long p3), .second, .val (.int p4), .val (.int (0 : Int32)), .unset, .unset, .unset, .unset, .unset, .unset, .unset, .unset, .unset, .unset] [])) _
      refine own_back (fun t k => XS.iconst X0.here hx rfl (hb hby at_21) k) ?_
      show OwnGo p e below (s₁.setTop (mkF m 22 #[.val (.long p1), .second, .val (.long p2), .second, .val (.long p3), .second, .val (.int p4), .val (.int (0 : Int32)), .unset, .unset, .unset, .unset, .unset, .unset, .unset, .unset, .unset, .unset] [(.int (1 : Int32))])) _
      refine own_back (fun t k => XS.goto X0.here hx rfl (pc0 := 22) (pc' := 26) rfl (hb hby at_22) (by decide) (by decide) k) ?_
      show OwnGo p e below (s₁.setTop (mkF m 26 #[.val (.long p1), .second, .val (.long p2), .second, .val (.long p3), .second, .val (.int p4), .val (.int (0 : Int32)), .unset, .unset, .unset, .unset, .unset, .unset, .unset, .unset, .unset, .unset] [(.int (1 : Int32))])) _
      refine own_back (fun t k => XS.istore X0.here hx rfl (hb hby at_26) rfl (l' := #[.val (.long p1), .second, .val (.long p2), .second, .val (.long p3), .second, .val (.int p4), .val (.int (0 : Int32)), .val (.int (1 : Int32)), .unset, .unset, .unset, .unset, .unset, .unset, .unset, .unset, .unset]) rfl k) ?_
      show OwnGo p e below (s₁.setTop (mkF m 28 #[.val (.long p1), .second, .val (.long p2), .second, .val (.long p3), .second, .val (.int p4), .val (.int (0 : Int32)), .val (.int (1 : Int32)), .unset, .unset, .unset, .unset, .unset, .unset, .unset, .unset, .unset] [])) _
      refine own_back (fun t k => XS.iload X0.here hx rfl (hb hby at_28) rfl k) ?_
      show OwnGo p e below (s₁.setTop (mkF m 30 #[.val (.long p1), .second, .val (.long p2), .second, .val (.long p3), .second, .val (.int p4), .val (.int (0 : Int32)), .val (.int (1 : Int32)), .unset, .unset, .unset, .unset, .unset, .unset, .unset, .unset, .unset] [(.int (1 : Int32))])) _
      refine own_back (fun t k => XS.ifNo X0.here hx rfl (hb hby at_30) rfl (Jvm.Free.XT.i0_eq_f (by decide)) k) ?_
      show OwnGo p e below (s₁.setTop (mkF m 33 #[.val (.long p1), .second, .val (.long p2), .second, .val (.long p3), .second, .val (.int p4), .val (.int (0 : Int32)), .val (.int (1 : Int32)), .unset, .unset, .unset, .unset, .unset, .unset, .unset, .unset, .unset] [])) _
      refine own_back (fun t k => XS.lloadN X0.here hx rfl (hb hby at_33) rfl k) ?_
      show OwnGo p e below (s₁.setTop (mkF m 34 #[.val (.long p1), .second, .val (.long p2), .second, .val (.long p3), .second, .val (.int p4), .val (.int (0 : Int32)), .val (.int (1 : Int32)), .unset, .unset, .unset, .unset, .unset, .unset, .unset, .unset, .unset] [(.long p1)])) _
      refine own_back (fun t k => X0.ldc2Long hx hown (mvT hZ (hw _ (List.mem_of_getElem? (i := 0) rfl))) (g := (mkF m 34 #[.val (.long p1), .second, .val (.long p2), .second, .val (.long p3), .second, .val (.int p4), .val (.int (0 : Int32)), .val (.int (1 : Int32)), .unset, .unset, .unset, .unset, .unset, .unset, .unset, .unset, .unset] [(.long p1)])) rfl (hb hby at_34) t k) ?_
      show OwnGo p e below (s₁.setTop (mkF m 37 #[.val (.long p1), .second, .val (.long p2), .second, .val (.long p3), .second, .val (.int p4), .val (.int (0 : Int32)), .val (.int (1 : Int32)), .unset, .unset, .unset, .unset, .unset, .unset, .unset, .unset, .unset] [(.long (18014398509481983 : Int64)), (.long p1)])) _
      refine own_back (fun t k => XS.land X0.here hx rfl (hb hby at_37) rfl k) ?_
      show OwnGo p e below (s₁.setTop (mkF m 38 #[.val (.long p1), .second, .val (.long p2), .second, .val (.long p3), .second, .val (.int p4), .val (.int (0 : Int32)), .val (.int (1 : Int32)), .unset, .unset, .unset, .unset, .unset, .unset, .unset, .unset, .unset] [(.long (p1 &&& (18014398509481983 : Int64)))])) _
      refine own_back (fun t k => X0.ldc2Long hx hown (mvT hZ (hw _ (List.mem_of_getElem? (i := 1) rfl))) (g := (mkF m 38 #[.val (.long p1), .second, .val (.long p2), .second, .val (.long p3), .second, .val (.int p4), .val (.int (0 : Int32)), .val (.int (1 : Int32)), .unset, .unset, .unset, .unset, .unset, .unset, .unset, .unset, .unset] [(.long (p1 &&& (18014398509481983 : Int64)))])) rfl (hb hby at_38) t k) ?_
      show OwnGo p e below (s₁.setTop (mkF m 41 #[.val (.long p1), .second, .val (.long p2), .second, .val (.long p3), .second, .val (.int p4), .val (.int (0 : Int32)), .val (.int (1 : Int32)), .unset, .unset, .unset, .unset, .unset, .unset, .unset, .unset, .unset] [(.long (9007199254740992 : Int64)), (.long (p1 &&& (18014398509481983 : Int64)))])) _
      refine own_back (fun t k => XS.lsub X0.here hx rfl (hb hby at_41) rfl k) ?_
      show OwnGo p e below (s₁.setTop (mkF m 42 #[.val (.long p1), .second, .val (.long p2), .second, .val (.long p3), .second, .val (.int p4), .val (.int (0 : Int32)), .val (.int (1 : Int32)), .unset, .unset, .unset, .unset, .unset, .unset, .unset, .unset, .unset] [(.long ((p1 &&& (18014398509481983 : Int64)) - (9007199254740992 : Int64)))])) _
      refine own_back (fun t k => XS.lstore X0.here hx rfl (hb hby at_42) rfl (l' := #[.val (.long p1), .second, .val (.long p2), .second, .val (.long p3), .second, .val (.int p4), .val (.int (0 : Int32)), .val (.int (1 : Int32)), .val (.long ((p1 &&& (18014398509481983 : Int64)) - (9007199254740992 : Int64))), .second, .unset, .unset, .unset, .unset, .unset, .unset, .unset]) rfl k) ?_
      show OwnGo p e below (s₁.setTop (mkF m 44 #[.val (.long p1), .second, .val (.long p2), .second, .val (.long p3), .second, .val (.int p4), .val (.int (0 : Int32)), .val (.int (1 : Int32)), .val (.long ((p1 &&& (18014398509481983 : Int64)) - (9007199254740992 : Int64))), .second, .unset, .unset, .unset, .unset, .unset, .unset, .unset] [])) _
      have hlo := own_lo p1
      obtain ⟨lo, elo⟩ : ∃ z : Int64, z = ((p1 &&& (18014398509481983 : Int64)) - (9007199254740992 : Int64)) := ⟨_, rfl⟩
      rw [← elo] at hlo
      rw [← elo]
      show OwnGo p e below (s₁.setTop (mkF m 44 #[.val (.long p1), .second, .val (.long p2), .second, .val (.long p3), .second, .val (.int p4), .val (.int (0 : Int32)), .val (.int (1 : Int32)), .val (.long lo), .second, .unset, .unset, .unset, .unset, .unset, .unset, .unset] [])) _
      refine own_back (fun t k => X0.ldc2Long hx hown (mvT hZ (hw _ (List.mem_of_getElem? (i := 1) rfl))) (g := (mkF m 44 #[.val (.long p1), .second, .val (.long p2), .second, .val (.long p3), .second, .val (.int p4), .val (.int (0 : Int32)), .val (.int (1 : Int32)), .val (.long lo), .second, .unset, .unset, .unset, .unset, .unset, .unset, .unset] [])) rfl (hb hby at_44) t k) ?_
      show OwnGo p e below (s₁.setTop (mkF m 47 #[.val (.long p1), .second, .val (.long p2), .second, .val (.long p3), .second, .val (.int p4), .val (.int (0 : Int32)), .val (.int (1 : Int32)), .val (.long lo), .second, .unset, .unset, .unset, .unset, .unset, .unset, .unset] [(.long (9007199254740992 : Int64))])) _
      refine own_back (fun t k => X0.ldc2Long hx hown (mvT hZ (hw _ (List.mem_of_getElem? (i := 1) rfl))) (g := (mkF m 47 #[.val (.long p1), .second, .val (.long p2), .second, .val (.long p3), .second, .val (.int p4), .val (.int (0 : Int32)), .val (.int (1 : Int32)), .val (.long lo), .second, .unset, .unset, .unset, .unset, .unset, .unset, .unset] [(.long (9007199254740992 : Int64))])) rfl (hb hby at_47) t k) ?_
      show OwnGo p e below (s₁.setTop (mkF m 50 #[.val (.long p1), .second, .val (.long p2), .second, .val (.long p3), .second, .val (.int p4), .val (.int (0 : Int32)), .val (.int (1 : Int32)), .val (.long lo), .second, .unset, .unset, .unset, .unset, .unset, .unset, .unset] [(.long (9007199254740992 : Int64)), (.long (9007199254740992 : Int64))])) _
      refine own_back (fun t k => XS.lload X0.here hx rfl (hb hby at_50) rfl k) ?_
      show OwnGo p e below (s₁.setTop (mkF m 52 #[.val (.long p1), .second, .val (.long p2), .second, .val (.long p3), .second, .val (.int p4), .val (.int (0 : Int32)), .val (.int (1 : Int32)), .val (.long lo), .second, .unset, .unset, .unset, .unset, .unset, .unset, .unset] [(.long lo), (.long (9007199254740992 : Int64)), (.long (9007199254740992 : Int64))])) _
      refine own_back (fun t k => XS.lsub X0.here hx rfl (hb hby at_52) rfl k) ?_
      show OwnGo p e below (s₁.setTop (mkF m 53 #[.val (.long p1), .second, .val (.long p2), .second, .val (.long p3), .second, .val (.int p4), .val (.int (0 : Int32)), .val (.int (1 : Int32)), .val (.long lo), .second, .unset, .unset, .unset, .unset, .unset, .unset, .unset] [(.long ((9007199254740992 : Int64) - lo)), (.long (9007199254740992 : Int64))])) _
      obtain ⟨_, _, ⟨T298, L298, k298, n298⟩, -, X298, ⟨Lc298, hQ298, l298, y298, z298⟩, st298⟩ := Jvm.LawKit.callS X0 hx (y := (⟨"java/lang/Math", "min", "(JJ)J"⟩ : MethodName)) hown (mvT hZ (hw _ (List.mem_of_getElem? (i := 2) rfl))) (mvT hZ (hw _ (List.mem_of_getElem? (i := 3) rfl))) (mvT hZ (hw _ (List.mem_of_getElem? (i := 4) rfl))) (mvT hZ (hw _ (List.mem_of_getElem? (i := 5) rfl))) (by decide) (own_backN (W := 0) (rm_mi l Z a0 hw [] (9007199254740992 : Int64) ((9007199254740992 : Int64) - lo) h0 n0 Z0) hZ (hw _ (List.mem_of_getElem? (i := 5) rfl)) (hw _ (List.mem_of_getElem? (i := 4) rfl)) (by decide) (by decide)) (g := (mkF m 53 #[.val (.long p1), .second, .val (.long p2), .second, .val (.long p3), .second, .val (.int p4), .val (.int (0 : Int32)), .val (.int (1 : Int32)), .val (.long lo), .second, .unset, .unset, .unset, .unset, .unset, .unset, .unset] [(.long ((9007199254740992 : Int64) - lo)), (.long (9007199254740992 : Int64))])) rfl (by rw [hml]; rfl) (argsL := [(.long (9007199254740992 : Int64)), (.long ((9007199254740992 : Int64) - lo))]) (rest := []) (lenOf lw_pd2 rfl) rfl (by show 2 * 0 + _ ≤ _; exact Nat.le_of_eq rfl) (hb hby at_53) (fun _ _ => ⟨rfl, e0, Nat.le_of_ble_eq_true rfl, Nat.le_of_ble_eq_true rfl⟩)
      dsimp only [Pt.U, Pt.locs, Pt.cells, Pt.slots] at X298 l298 y298 z298 st298 hQ298
      subst l298 y298 z298
      obtain ⟨rfl, N298q, hh298⟩ := hQ298
      refine own_back st298 ?_
      have N298 := Fr.app N0 N298q
      show OwnGo p e below (T298.setTop (mkF m 56 #[.val (.long p1), .second, .val (.long p2), .second, .val (.long p3), .second, .val (.int p4), .val (.int (0 : Int32)), .val (.int (1 : Int32)), .val (.long lo), .second, .unset, .unset, .unset, .unset, .unset, .unset, .unset] [(.long (own_min (9007199254740992 : Int64) ((9007199254740992 : Int64) - lo)))])) _
      refine own_back (fun t k => XS.lstore X298.here hx rfl (hb hby at_56) rfl (l' := #[.val (.long p1), .second, .val (.long p2), .second, .val (.long p3), .second, .val (.int p4), .val (.int (0 : Int32)), .val (.int (1 : Int32)), .val (.long lo), .second, .unset, .unset, .unset, .val (.long (own_min (9007199254740992 : Int64) ((9007199254740992 : Int64) - lo))), .second, .unset, .unset]) rfl k) ?_
      show OwnGo p e below (T298.setTop (mkF m 58 #[.val (.long p1), .second, .val (.long p2), .second, .val (.long p3), .second, .val (.int p4), .val (.int (0 : Int32)), .val (.int (1 : Int32)), .val (.long lo), .second, .unset, .unset, .unset, .val (.long (own_min (9007199254740992 : Int64) ((9007199254740992 : Int64) - lo))), .second, .unset, .unset] [])) _
      have hrm := own_room hlo.1 hlo.2
      obtain ⟨rm, erm⟩ : ∃ z : Int64, z = (own_min (9007199254740992 : Int64) ((9007199254740992 : Int64) - lo)) := ⟨_, rfl⟩
      rw [← erm] at hrm
      rw [← erm]
      show OwnGo p e below (T298.setTop (mkF m 58 #[.val (.long p1), .second, .val (.long p2), .second, .val (.long p3), .second, .val (.int p4), .val (.int (0 : Int32)), .val (.int (1 : Int32)), .val (.long lo), .second, .unset, .unset, .unset, .val (.long rm), .second, .unset, .unset] [])) _
      refine own_back (fun t k => XS.lconst X298.here hx rfl (hb hby at_58) k) ?_
      show OwnGo p e below (T298.setTop (mkF m 59 #[.val (.long p1), .second, .val (.long p2), .second, .val (.long p3), .second, .val (.int p4), .val (.int (0 : Int32)), .val (.int (1 : Int32)), .val (.long lo), .second, .unset, .unset, .unset, .val (.long rm), .second, .unset, .unset] [(.long (1 : Int64))])) _
      refine own_back (fun t k => XS.lloadN X298.here hx rfl (hb hby at_59) rfl k) ?_
      show OwnGo p e below (T298.setTop (mkF m 60 #[.val (.long p1), .second, .val (.long p2), .second, .val (.long p3), .second, .val (.int p4), .val (.int (0 : Int32)), .val (.int (1 : Int32)), .val (.long lo), .second, .unset, .unset, .unset, .val (.long rm), .second, .unset, .unset] [(.long p2), (.long (1 : Int64))])) _
      refine own_back (fun t k => X298.ldc2Long hx hown (mvT hZ (hw _ (List.mem_of_getElem? (i := 6) rfl))) (g := (mkF m 60 #[.val (.long p1), .second, .val (.long p2), .second, .val (.long p3), .second, .val (.int p4), .val (.int (0 : Int32)), .val (.int (1 : Int32)), .val (.long lo), .second, .unset, .unset, .unset, .val (.long rm), .second, .unset, .unset] [(.long p2), (.long (1 : Int64))])) rfl (hb hby at_60) t k) ?_
      show OwnGo p e below (T298.setTop (mkF m 63 #[.val (.long p1), .second, .val (.long p2), .second, .val (.long p3), .second, .val (.int p4), .val (.int (0 : Int32)), .val (.int (1 : Int32)), .val (.long lo), .second, .unset, .unset, .unset, .val (.long rm), .second, .unset, .unset] [(.long (9223372036854775807 : Int64)), (.long p2), (.long (1 : Int64))])) _
      refine own_back (fun t k => XS.land X298.here hx rfl (hb hby at_63) rfl k) ?_
      show OwnGo p e below (T298.setTop (mkF m 64 #[.val (.long p1), .second, .val (.long p2), .second, .val (.long p3), .second, .val (.int p4), .val (.int (0 : Int32)), .val (.int (1 : Int32)), .val (.long lo), .second, .unset, .unset, .unset, .val (.long rm), .second, .unset, .unset] [(.long (p2 &&& (9223372036854775807 : Int64))), (.long (1 : Int64))])) _
      refine own_back (fun t k => XS.lload X298.here hx rfl (hb hby at_64) rfl k) ?_
      show OwnGo p e below (T298.setTop (mkF m 66 #[.val (.long p1), .second, .val (.long p2), .second, .val (.long p3), .second, .val (.int p4), .val (.int (0 : Int32)), .val (.int (1 : Int32)), .val (.long lo), .second, .unset, .unset, .unset, .val (.long rm), .second, .unset, .unset] [(.long rm), (.long (p2 &&& (9223372036854775807 : Int64))), (.long (1 : Int64))])) _
      refine own_back (fun t k => own_lrem X298 hx rfl (hb hby at_66) rfl (own_nz hrm.1) k) ?_
      show OwnGo p e below (T298.setTop (mkF m 67 #[.val (.long p1), .second, .val (.long p2), .second, .val (.long p3), .second, .val (.int p4), .val (.int (0 : Int32)), .val (.int (1 : Int32)), .val (.long lo), .second, .unset, .unset, .unset, .val (.long rm), .second, .unset, .unset] [(.long ((p2 &&& (9223372036854775807 : Int64)) % rm)), (.long (1 : Int64))])) _
      refine own_back (fun t k => XS.ladd X298.here hx rfl (hb hby at_67) rfl k) ?_
      show OwnGo p e below (T298.setTop (mkF m 68 #[.val (.long p1), .second, .val (.long p2), .second, .val (.long p3), .second, .val (.int p4), .val (.int (0 : Int32)), .val (.int (1 : Int32)), .val (.long lo), .second, .unset, .unset, .unset, .val (.long rm), .second, .unset, .unset] [(.long ((1 : Int64) + ((p2 &&& (9223372036854775807 : Int64)) % rm)))])) _
      refine own_back (fun t k => XS.lstore X298.here hx rfl (hb hby at_68) rfl (l' := #[.val (.long p1), .second, .val (.long p2), .second, .val (.long p3), .second, .val (.int p4), .val (.int (0 : Int32)), .val (.int (1 : Int32)), .val (.long lo), .second, .val (.long ((1 : Int64) + ((p2 &&& (9223372036854775807 : Int64)) % rm))), .second, .unset, .val (.long rm), .second, .unset, .unset]) rfl k) ?_
      show OwnGo p e below (T298.setTop (mkF m 70 #[.val (.long p1), .second, .val (.long p2), .second, .val (.long p3), .second, .val (.int p4), .val (.int (0 : Int32)), .val (.int (1 : Int32)), .val (.long lo), .second, .val (.long ((1 : Int64) + ((p2 &&& (9223372036854775807 : Int64)) % rm))), .second, .unset, .val (.long rm), .second, .unset, .unset] [])) _
      have hsz := own_size (a := p2) hrm.1 hrm.2.1
      obtain ⟨sz, esz⟩ : ∃ z : Int64, z = ((1 : Int64) + ((p2 &&& (9223372036854775807 : Int64)) % rm)) := ⟨_, rfl⟩
      rw [← esz] at hsz
      rw [← esz]
      have he1 := own_e1 hlo.1 hlo.2 hsz.1 (Int.le_trans hsz.2 hrm.2.1) (by have := hsz.2; have := hrm.2.2; omega)
      have hs1 := hsz.1
      show OwnGo p e below (T298.setTop (mkF m 70 #[.val (.long p1), .second, .val (.long p2), .second, .val (.long p3), .second, .val (.int p4), .val (.int (0 : Int32)), .val (.int (1 : Int32)), .val (.long lo), .second, .val (.long sz), .second, .unset, .val (.long rm), .second, .unset, .unset] [])) _
      obtain ⟨a299, T299, h299, k1299, t299, kb299, X299, e299, E299, hS299, hk299, hZ299, hown299, EX299, FC299, FV299, AV299, la299, lb299, CRl299, hLit299, sx299, st299⟩ := ldcCH X298 hx hZ hown (hw _ (List.mem_of_getElem? (i := 7) rfl)) (own_wS hw) hh298 hS0 hk0 hEL (List.mem_of_getElem? (i := 2) rfl) CR0.1 (vs := [(.int 116)]) (z := 1) ⟨by decide, by decide⟩ (by decide) (by decide) (g := (mkF m 70 #[.val (.long p1), .second, .val (.long p2), .second, .val (.long p3), .second, .val (.int p4), .val (.int (0 : Int32)), .val (.int (1 : Int32)), .val (.long lo), .second, .val (.long sz), .second, .unset, .val (.long rm), .second, .unset, .unset] [])) rfl (hb hby at_70) (n := 4) (Nat.le_of_ble_eq_true rfl) (by decide) (Nat.le_of_ble_eq_true rfl) (Nat.le_of_ble_eq_true rfl)
      have O300 := OL.ext E299
      have KP301 := KP0.ext E299
      have Zs302 := Nat.le_trans Z0 E299.1
      have CR303 := CR0.trans CRl299
      refine own_back st299 ?_
      show OwnGo p e below (T299.setTop (mkF m 72 #[.val (.long p1), .second, .val (.long p2), .second, .val (.long p3), .second, .val (.int p4), .val (.int (0 : Int32)), .val (.int (1 : Int32)), .val (.long lo), .second, .val (.long sz), .second, .unset, .val (.long rm), .second, .unset, .unset] [(.ref a299)])) _
      refine own_back (fun t k => XS.lload X299.here hx rfl (hb hby at_72) rfl k) ?_
      show OwnGo p e below (T299.setTop (mkF m 74 #[.val (.long p1), .second, .val (.long p2), .second, .val (.long p3), .second, .val (.int p4), .val (.int (0 : Int32)), .val (.int (1 : Int32)), .val (.long lo), .second, .val (.long sz), .second, .unset, .val (.long rm), .second, .unset, .unset] [(.long lo), (.ref a299)])) _
      refine own_back (fun t k => XS.lload X299.here hx rfl (hb hby at_74) rfl k) ?_
      show OwnGo p e below (T299.setTop (mkF m 76 #[.val (.long p1), .second, .val (.long p2), .second, .val (.long p3), .second, .val (.int p4), .val (.int (0 : Int32)), .val (.int (1 : Int32)), .val (.long lo), .second, .val (.long sz), .second, .unset, .val (.long rm), .second, .unset, .unset] [(.long lo), (.long lo), (.ref a299)])) _
      refine own_back (fun t k => XS.lload X299.here hx rfl (hb hby at_76) rfl k) ?_
      show OwnGo p e below (T299.setTop (mkF m 78 #[.val (.long p1), .second, .val (.long p2), .second, .val (.long p3), .second, .val (.int p4), .val (.int (0 : Int32)), .val (.int (1 : Int32)), .val (.long lo), .second, .val (.long sz), .second, .unset, .val (.long rm), .second, .unset, .unset] [(.long sz), (.long lo), (.long lo), (.ref a299)])) _
      refine own_back (fun t k => XS.ladd X299.here hx rfl (hb hby at_78) rfl k) ?_
      show OwnGo p e below (T299.setTop (mkF m 79 #[.val (.long p1), .second, .val (.long p2), .second, .val (.long p3), .second, .val (.int p4), .val (.int (0 : Int32)), .val (.int (1 : Int32)), .val (.long lo), .second, .val (.long sz), .second, .unset, .val (.long rm), .second, .unset, .unset] [(.long (lo + sz)), (.long lo), (.ref a299)])) _
      obtain ⟨_, _, ⟨T304, L304, k304, n304⟩, -, X304, hSn304, hgr304, ⟨Lc304, hQ304, l304, y304, z304, CRn304⟩, st304⟩ := callSS X299 hx (y := (⟨"com/example/sorted_set_patterns/sortedsetpatterns/Field", "earliestFirst", "(Ljava/lang/String;JJ)Lcom/example/sorted_set_patterns/sortedsetpatterns/Field;"⟩ : MethodName)) hown299 (mvT hZ299 (hw _ (List.mem_of_getElem? (i := 15) rfl))) (mvT hZ299 (hw _ (List.mem_of_getElem? (i := 16) rfl))) (mvT hZ299 (hw _ (List.mem_of_getElem? (i := 17) rfl))) (mvT hZ299 (hw _ (List.mem_of_getElem? (i := 18) rfl))) (by decide) (own_backH (W := 0) (rm_ef l Z a0 hw [] a299 116 lo (lo + sz) wo cz fm h299 n0 Zs302 O300 (⟨_, _, EX299, FC299, FV299, AV299, by decide⟩ : OwnStr Z h299 a299 [116]) EO SL SC hcz SO hfm he1.1 he1.2.1 he1.2.2.1 he1.2.2.2) hZ299 (hw _ (List.mem_of_getElem? (i := 18) rfl)) (hw _ (List.mem_of_getElem? (i := 17) rfl)) (by decide) (by decide) hEL CR303.1 sf0 all0) (g := (mkF m 79 #[.val (.long p1), .second, .val (.long p2), .second, .val (.long p3), .second, .val (.int p4), .val (.int (0 : Int32)), .val (.int (1 : Int32)), .val (.long lo), .second, .val (.long sz), .second, .unset, .val (.long rm), .second, .unset, .unset] [(.long (lo + sz)), (.long lo), (.ref a299)])) rfl (by rw [hml]; rfl) (argsL := [(.ref a299), (.long lo), (.long (lo + sz))]) (rest := []) (lenOf lw_pd3 rfl) rfl (by show 2 * 0 + _ ≤ _; exact Nat.le_of_eq rfl) (hb hby at_79) (fun _ _ => ⟨rfl, e299, Nat.le_of_ble_eq_true rfl, Nat.le_of_ble_eq_true rfl⟩)
      dsimp only [Pt.U, Pt.locs, Pt.cells, Pt.slots] at X304 l304 y304 z304 st304 hQ304 hSn304 hgr304 CRn304
      subst l304 y304 z304
      obtain ⟨Xr304, hSr304, hZr304, hownr304⟩ := rebS hS299 (own_hle e299 hk299) X304 hSn304 hgr304 hZ299 hown299
      obtain ⟨af304, rfl, N304q, E304, EX304, Fmin304, Fmax304, Ford304⟩ := hQ304
      refine own_seq st304 ?_
      have N304 := Fr.app N298 N304q
      have O305 := O300.ext E304
      have KP306 := KP301.ext E304
      have Zs307 := Nat.le_trans Zs302 E304.1
      have CR308 := CR303.trans CRn304
      have f309 := EX299.ext E304
      have f310 := FC299.ext E304
      have f311 := FV299.ext E304
      have f312 := AV299.ext E304
      show OwnGo p e below (T304.setTop (mkF m 82 #[.val (.long p1), .second, .val (.long p2), .second, .val (.long p3), .second, .val (.int p4), .val (.int (0 : Int32)), .val (.int (1 : Int32)), .val (.long lo), .second, .val (.long sz), .second, .unset, .val (.long rm), .second, .unset, .unset] [(.ref af304)])) _
      refine own_back (fun t k => XS.astore Xr304.here hx rfl (hb hby at_82) rfl rfl (l' := #[.val (.long p1), .second, .val (.long p2), .second, .val (.long p3), .second, .val (.int p4), .val (.int (0 : Int32)), .val (.int (1 : Int32)), .val (.long lo), .second, .val (.long sz), .second, .val (.ref af304), .val (.long rm), .second, .unset, .unset]) rfl k) ?_
      show OwnGo p e below (T304.setTop (mkF m 84 #[.val (.long p1), .second, .val (.long p2), .second, .val (.long p3), .second, .val (.int p4), .val (.int (0 : Int32)), .val (.int (1 : Int32)), .val (.long lo), .second, .val (.long sz), .second, .val (.ref af304), .val (.long rm), .second, .unset, .unset] [])) _
      refine own_back (fun t k => XS.iconst Xr304.here hx rfl (hb hby at_84) k) ?_
      show OwnGo p e below (T304.setTop (mkF m 85 #[.val (.long p1), .second, .val (.long p2), .second, .val (.long p3), .second, .val (.int p4), .val (.int (0 : Int32)), .val (.int (1 : Int32)), .val (.long lo), .second, .val (.long sz), .second, .val (.ref af304), .val (.long rm), .second, .unset, .unset] [(.int (0 : Int32))])) _
      refine own_back (fun t k => XS.istore Xr304.here hx rfl (hb hby at_85) rfl (l' := #[.val (.long p1), .second, .val (.long p2), .second, .val (.long p3), .second, .val (.int p4), .val (.int (0 : Int32)), .val (.int (1 : Int32)), .val (.long lo), .second, .val (.long sz), .second, .val (.ref af304), .val (.long rm), .second, .unset, .unset]) rfl k) ?_
      show OwnGo p e below (T304.setTop (mkF m 87 #[.val (.long p1), .second, .val (.long p2), .second, .val (.long p3), .second, .val (.int p4), .val (.int (0 : Int32)), .val (.int (1 : Int32)), .val (.long lo), .second, .val (.long sz), .second, .val (.ref af304), .val (.long rm), .second, .unset, .unset] [])) _
      refine own_back (fun t k => XS.goto Xr304.here hx rfl (pc0 := 87) (pc' := 131) rfl (hb hby at_87) (by decide) (by decide) k) ?_
      show OwnGo p e below (T304.setTop (mkF m 131 #[.val (.long p1), .second, .val (.long p2), .second, .val (.long p3), .second, .val (.int p4), .val (.int (0 : Int32)), .val (.int (1 : Int32)), .val (.long lo), .second, .val (.long sz), .second, .val (.ref af304), .val (.long rm), .second, .unset, .unset] [])) _
      refine own_back (fun t k => XS.lload Xr304.here hx rfl (hb hby at_131) rfl k) ?_
      show OwnGo p e below (T304.setTop (mkF m 133 #[.val (.long p1), .second, .val (.long p2), .second, .val (.long p3), .second, .val (.int p4), .val (.int (0 : Int32)), .val (.int (1 : Int32)), .val (.long lo), .second, .val (.long sz), .second, .val (.ref af304), .val (.long rm), .second, .unset, .unset] [(.long p3)])) _
      refine own_back (fun t k => Xr304.ldc2Long hx hownr304 (mvT hZr304 (hw _ (List.mem_of_getElem? (i := 6) rfl))) (g := (mkF m 133 #[.val (.long p1), .second, .val (.long p2), .second, .val (.long p3), .second, .val (.int p4), .val (.int (0 : Int32)), .val (.int (1 : Int32)), .val (.long lo), .second, .val (.long sz), .second, .val (.ref af304), .val (.long rm), .second, .unset, .unset] [(.long p3)])) rfl (hb hby at_133) t k) ?_
      show OwnGo p e below (T304.setTop (mkF m 136 #[.val (.long p1), .second, .val (.long p2), .second, .val (.long p3), .second, .val (.int p4), .val (.int (0 : Int32)), .val (.int (1 : Int32)), .val (.long lo), .second, .val (.long sz), .second, .val (.ref af304), .val (.long rm), .second, .unset, .unset] [(.long (9223372036854775807 : Int64)), (.long p3)])) _
      refine own_back (fun t k => XS.land Xr304.here hx rfl (hb hby at_136) rfl k) ?_
      show OwnGo p e below (T304.setTop (mkF m 137 #[.val (.long p1), .second, .val (.long p2), .second, .val (.long p3), .second, .val (.int p4), .val (.int (0 : Int32)), .val (.int (1 : Int32)), .val (.long lo), .second, .val (.long sz), .second, .val (.ref af304), .val (.long rm), .second, .unset, .unset] [(.long (p3 &&& (9223372036854775807 : Int64)))])) _
      refine own_back (fun t k => XS.lload Xr304.here hx rfl (hb hby at_137) rfl k) ?_
      show OwnGo p e below (T304.setTop (mkF m 139 #[.val (.long p1), .second, .val (.long p2), .second, .val (.long p3), .second, .val (.int p4), .val (.int (0 : Int32)), .val (.int (1 : Int32)), .val (.long lo), .second, .val (.long sz), .second, .val (.ref af304), .val (.long rm), .second, .unset, .unset] [(.long sz), (.long (p3 &&& (9223372036854775807 : Int64)))])) _
      refine own_back (fun t k => own_lrem Xr304 hx rfl (hb hby at_139) rfl (own_nz hs1) k) ?_
      show OwnGo p e below (T304.setTop (mkF m 140 #[.val (.long p1), .second, .val (.long p2), .second, .val (.long p3), .second, .val (.int p4), .val (.int (0 : Int32)), .val (.int (1 : Int32)), .val (.long lo), .second, .val (.long sz), .second, .val (.ref af304), .val (.long rm), .second, .unset, .unset] [(.long ((p3 &&& (9223372036854775807 : Int64)) % sz))])) _
      refine own_back (fun t k => XS.lstore Xr304.here hx rfl (hb hby at_140) rfl (l' := #[.val (.long p1), .second, .val (.long p2), .second, .val (.long p3), .second, .val (.int p4), .val (.int (0 : Int32)), .val (.int (1 : Int32)), .val (.long lo), .second, .val (.long sz), .second, .val (.ref af304), .val (.long ((p3 &&& (9223372036854775807 : Int64)) % sz)), .second, .unset, .unset]) rfl k) ?_
      show OwnGo p e below (T304.setTop (mkF m 142 #[.val (.long p1), .second, .val (.long p2), .second, .val (.long p3), .second, .val (.int p4), .val (.int (0 : Int32)), .val (.int (1 : Int32)), .val (.long lo), .second, .val (.long sz), .second, .val (.ref af304), .val (.long ((p3 &&& (9223372036854775807 : Int64)) % sz)), .second, .unset, .unset] [])) _
      obtain ⟨ix, eix⟩ : ∃ z : Int64, z = ((p3 &&& (9223372036854775807 : Int64)) % sz) := ⟨_, rfl⟩
      rw [← eix]
      show OwnGo p e below (T304.setTop (mkF m 142 #[.val (.long p1), .second, .val (.long p2), .second, .val (.long p3), .second, .val (.int p4), .val (.int (0 : Int32)), .val (.int (1 : Int32)), .val (.long lo), .second, .val (.long sz), .second, .val (.ref af304), .val (.long ix), .second, .unset, .unset] [])) _
      refine own_back (fun t k => XS.iload Xr304.here hx rfl (hb hby at_142) rfl k) ?_
      show OwnGo p e below (T304.setTop (mkF m 144 #[.val (.long p1), .second, .val (.long p2), .second, .val (.long p3), .second, .val (.int p4), .val (.int (0 : Int32)), .val (.int (1 : Int32)), .val (.long lo), .second, .val (.long sz), .second, .val (.ref af304), .val (.long ix), .second, .unset, .unset] [(.int (0 : Int32))])) _
      refine own_back (fun t k => XS.ifYes Xr304.here hx rfl (pc0 := 144) (pc' := 152) rfl (hb hby at_144) rfl (Jvm.Free.XT.i0_eq_t (by decide)) (by decide) (by decide) k) ?_
      show OwnGo p e below (T304.setTop (mkF m 152 #[.val (.long p1), .second, .val (.long p2), .second, .val (.long p3), .second, .val (.int p4), .val (.int (0 : Int32)), .val (.int (1 : Int32)), .val (.long lo), .second, .val (.long sz), .second, .val (.ref af304), .val (.long ix), .second, .unset, .unset] [])) _
      refine own_back (fun t k => XS.lload Xr304.here hx rfl (hb hby at_152) rfl k) ?_
      show OwnGo p e below (T304.setTop (mkF m 154 #[.val (.long p1), .second, .val (.long p2), .second, .val (.long p3), .second, .val (.int p4), .val (.int (0 : Int32)), .val (.int (1 : Int32)), .val (.long lo), .second, .val (.long sz), .second, .val (.ref af304), .val (.long ix), .second, .unset, .unset] [(.long sz)])) _
      refine own_back (fun t k => XS.lconst Xr304.here hx rfl (hb hby at_154) k) ?_
      show OwnGo p e below (T304.setTop (mkF m 155 #[.val (.long p1), .second, .val (.long p2), .second, .val (.long p3), .second, .val (.int p4), .val (.int (0 : Int32)), .val (.int (1 : Int32)), .val (.long lo), .second, .val (.long sz), .second, .val (.ref af304), .val (.long ix), .second, .unset, .unset] [(.long (1 : Int64)), (.long sz)])) _
      refine own_back (fun t k => XS.lsub Xr304.here hx rfl (hb hby at_155) rfl k) ?_
      show OwnGo p e below (T304.setTop (mkF m 156 #[.val (.long p1), .second, .val (.long p2), .second, .val (.long p3), .second, .val (.int p4), .val (.int (0 : Int32)), .val (.int (1 : Int32)), .val (.long lo), .second, .val (.long sz), .second, .val (.ref af304), .val (.long ix), .second, .unset, .unset] [(.long (sz - (1 : Int64)))])) _
      refine own_back (fun t k => XS.lload Xr304.here hx rfl (hb hby at_156) rfl k) ?_
      show OwnGo p e below (T304.setTop (mkF m 158 #[.val (.long p1), .second, .val (.long p2), .second, .val (.long p3), .second, .val (.int p4), .val (.int (0 : Int32)), .val (.int (1 : Int32)), .val (.long lo), .second, .val (.long sz), .second, .val (.ref af304), .val (.long ix), .second, .unset, .unset] [(.long ix), (.long (sz - (1 : Int64)))])) _
      refine own_back (fun t k => XS.lsub Xr304.here hx rfl (hb hby at_158) rfl k) ?_
      show OwnGo p e below (T304.setTop (mkF m 159 #[.val (.long p1), .second, .val (.long p2), .second, .val (.long p3), .second, .val (.int p4), .val (.int (0 : Int32)), .val (.int (1 : Int32)), .val (.long lo), .second, .val (.long sz), .second, .val (.ref af304), .val (.long ix), .second, .unset, .unset] [(.long ((sz - (1 : Int64)) - ix))])) _
      refine own_back (fun t k => XS.lstore Xr304.here hx rfl (hb hby at_159) rfl (l' := #[.val (.long p1), .second, .val (.long p2), .second, .val (.long p3), .second, .val (.int p4), .val (.int (0 : Int32)), .val (.int (1 : Int32)), .val (.long lo), .second, .val (.long sz), .second, .val (.ref af304), .val (.long ix), .second, .val (.long ((sz - (1 : Int64)) - ix)), .second]) rfl k) ?_
      show OwnGo p e below (T304.setTop (mkF m 161 #[.val (.long p1), .second, .val (.long p2), .second, .val (.long p3), .second, .val (.int p4), .val (.int (0 : Int32)), .val (.int (1 : Int32)), .val (.long lo), .second, .val (.long sz), .second, .val (.ref af304), .val (.long ix), .second, .val (.long ((sz - (1 : Int64)) - ix)), .second] [])) _
      refine own_back (fun t k => XS.aload Xr304.here hx rfl (hb hby at_161) rfl rfl k) ?_
      show OwnGo p e below (T304.setTop (mkF m 163 #[.val (.long p1), .second, .val (.long p2), .second, .val (.long p3), .second, .val (.int p4), .val (.int (0 : Int32)), .val (.int (1 : Int32)), .val (.long lo), .second, .val (.long sz), .second, .val (.ref af304), .val (.long ix), .second, .val (.long ((sz - (1 : Int64)) - ix)), .second] [(.ref af304)])) _
      refine own_back (fun t k => XS.lload Xr304.here hx rfl (hb hby at_163) rfl k) ?_
      show OwnGo p e below (T304.setTop (mkF m 165 #[.val (.long p1), .second, .val (.long p2), .second, .val (.long p3), .second, .val (.int p4), .val (.int (0 : Int32)), .val (.int (1 : Int32)), .val (.long lo), .second, .val (.long sz), .second, .val (.ref af304), .val (.long ix), .second, .val (.long ((sz - (1 : Int64)) - ix)), .second] [(.long lo), (.ref af304)])) _
      refine own_back (fun t k => XS.lload Xr304.here hx rfl (hb hby at_165) rfl k) ?_
      show OwnGo p e below (T304.setTop (mkF m 167 #[.val (.long p1), .second, .val (.long p2), .second, .val (.long p3), .second, .val (.int p4), .val (.int (0 : Int32)), .val (.int (1 : Int32)), .val (.long lo), .second, .val (.long sz), .second, .val (.ref af304), .val (.long ix), .second, .val (.long ((sz - (1 : Int64)) - ix)), .second] [(.long ix), (.long lo), (.ref af304)])) _
      refine own_back (fun t k => XS.ladd Xr304.here hx rfl (hb hby at_167) rfl k) ?_
      show OwnGo p e below (T304.setTop (mkF m 168 #[.val (.long p1), .second, .val (.long p2), .second, .val (.long p3), .second, .val (.int p4), .val (.int (0 : Int32)), .val (.int (1 : Int32)), .val (.long lo), .second, .val (.long sz), .second, .val (.ref af304), .val (.long ix), .second, .val (.long ((sz - (1 : Int64)) - ix)), .second] [(.long (lo + ix)), (.ref af304)])) _
      obtain ⟨cq313, kq313, q313a, q313b, q313c⟩ := isOf hZr304 rfl EX304
      obtain ⟨_, _, ⟨T313, L313, k313, n313⟩, -, X313, ⟨Lc313, hQ313, l313, y313, z313⟩, st313⟩ := Xr304.virtualBack hx (y := (⟨"com/example/sorted_set_patterns/sortedsetpatterns/Field", "digit", "(J)J"⟩ : MethodName)) (z := (⟨"com/example/sorted_set_patterns/sortedsetpatterns/Field", "digit", "(J)J"⟩ : MethodName)) hownr304 (mvT hZr304 (hw _ (List.mem_of_getElem? (i := 92) rfl))) (mvT hZr304 (hw _ (List.mem_of_getElem? (i := 93) rfl))) (notFace_of_selects (args := #[]) (mvT hZr304 (hw _ (List.mem_of_getElem? (i := 95) rfl)))) (mvT hZr304 (hw _ (List.mem_of_getElem? (i := 95) rfl))) (mvT hZr304 (hw _ (List.mem_of_getElem? (i := 94) rfl))) (by decide) (own_backN (W := 0) (rm_dg l Z a0 hw [] af304 (lo + ix) lo ((lo + sz) - (1 : Int64)) wo wh T304.heap n0 Zs307 O305 Fmin304 Fmax304 Ford304 SH) hZr304 (hw _ (List.mem_of_getElem? (i := 96) rfl)) (hw _ (List.mem_of_getElem? (i := 17) rfl)) (by decide) (by decide)) q313a q313c (g := (mkF m 168 #[.val (.long p1), .second, .val (.long p2), .second, .val (.long p3), .second, .val (.int p4), .val (.int (0 : Int32)), .val (.int (1 : Int32)), .val (.long lo), .second, .val (.long sz), .second, .val (.ref af304), .val (.long ix), .second, .val (.long ((sz - (1 : Int64)) - ix)), .second] [(.long (lo + ix)), (.ref af304)])) rfl (by rw [hml]; rfl) (Steps.refl _) (argsL := [(.long (lo + ix))]) (rest := []) (lenOf lw_pd1 rfl) rfl (by show 2 * 0 + _ ≤ _; exact Nat.le_of_eq rfl) (hb hby at_168) (fun _ _ => ⟨rfl, rfl, Nat.le_of_ble_eq_true rfl, Nat.le_of_ble_eq_true rfl⟩)
      dsimp only [Pt.U, Pt.locs, Pt.cells, Pt.slots] at X313 l313 y313 z313 st313 hQ313
      subst l313 y313 z313
      rw [if_neg hne, own_fin1 lo sz ix] at hQ313
      obtain ⟨rfl, N313q, hh313⟩ := hQ313
      refine own_seq st313 ?_
      have N313 := Fr.app N304 N313q
      show OwnGo p e below (T313.setTop (mkF m 171 #[.val (.long p1), .second, .val (.long p2), .second, .val (.long p3), .second, .val (.int p4), .val (.int (0 : Int32)), .val (.int (1 : Int32)), .val (.long lo), .second, .val (.long sz), .second, .val (.ref af304), .val (.long ix), .second, .val (.long ((sz - (1 : Int64)) - ix)), .second] [(.long ((sz - (1 : Int64)) - ix))])) _
      refine own_back (fun t k => XS.lload X313.here hx rfl (hb hby at_171) rfl k) ?_
      show OwnGo p e below (T313.setTop (mkF m 173 #[.val (.long p1), .second, .val (.long p2), .second, .val (.long p3), .second, .val (.int p4), .val (.int (0 : Int32)), .val (.int (1 : Int32)), .val (.long lo), .second, .val (.long sz), .second, .val (.ref af304), .val (.long ix), .second, .val (.long ((sz - (1 : Int64)) - ix)), .second] [(.long ((sz - (1 : Int64)) - ix)), (.long ((sz - (1 : Int64)) - ix))])) _
      refine own_back (fun t k => XT.lcmp X313.here hx rfl (hb hby at_173) rfl k) ?_
      show OwnGo p e below (T313.setTop (mkF m 174 #[.val (.long p1), .second, .val (.long p2), .second, .val (.long p3), .second, .val (.int p4), .val (.int (0 : Int32)), .val (.int (1 : Int32)), .val (.long lo), .second, .val (.long sz), .second, .val (.ref af304), .val (.long ix), .second, .val (.long ((sz - (1 : Int64)) - ix)), .second] [(.int (XT.cmpL ((sz - (1 : Int64)) - ix) ((sz - (1 : Int64)) - ix)))])) _
      refine own_back (fun t k => XS.ifNo X313.here hx rfl (hb hby at_174) rfl (Jvm.Free.XT.ll_ne_f rfl) k) ?_
      show OwnGo p e below (T313.setTop (mkF m 177 #[.val (.long p1), .second, .val (.long p2), .second, .val (.long p3), .second, .val (.int p4), .val (.int (0 : Int32)), .val (.int (1 : Int32)), .val (.long lo), .second, .val (.long sz), .second, .val (.ref af304), .val (.long ix), .second, .val (.long ((sz - (1 : Int64)) - ix)), .second] [])) _
      refine own_back (fun t k => XS.iconst X313.here hx rfl (hb hby at_177) k) ?_
      show OwnGo p e below (T313.setTop (mkF m 178 #[.val (.long p1), .second, .val (.long p2), .second, .val (.long p3), .second, .val (.int p4), .val (.int (0 : Int32)), .val (.int (1 : Int32)), .val (.long lo), .second, .val (.long sz), .second, .val (.ref af304), .val (.long ix), .second, .val (.long ((sz - (1 : Int64)) - ix)), .second] [(.int (1 : Int32))])) _
      refine own_back (fun t k => XS.goto X313.here hx rfl (pc0 := 178) (pc' := 182) rfl (hb hby at_178) (by decide) (by decide) k) ?_
      show OwnGo p e below (T313.setTop (mkF m 182 #[.val (.long p1), .second, .val (.long p2), .second, .val (.long p3), .second, .val (.int p4), .val (.int (0 : Int32)), .val (.int (1 : Int32)), .val (.long lo), .second, .val (.long sz), .second, .val (.ref af304), .val (.long ix), .second, .val (.long ((sz - (1 : Int64)) - ix)), .second] [(.int (1 : Int32))])) _
      refine own_retNW X313 hx Bd.notSynchronized (t := .boolean) (z := (1 : Int32)) Bd.returns (by simp) rfl hSr304 (Nat.le_refl _) hZr304 hEL (hh ▸ CR308) (hb hby at_182) hh313 (Nat.le_of_ble_eq_true rfl) (Nat.le_of_ble_eq_true rfl) ?_
      exact ⟨rfl, N313⟩
  · refine own_back (fun t k => XS.ifNo X0.here hx rfl (hb hby at_4) rfl (Jvm.Free.XT.i0_eq_f hc4_257) k) ?_
    show OwnGo p e below (s₁.setTop (mkF m 7 #[.val (.long p1), .second, .val (.long p2), .second, .val (.long p3), .second, .val (.int p4), .unset, .unset, .unset, .unset, .unset, .unset, .unset, .unset, .unset, .unset, .unset] [])) _
    refine own_back (fun t k => XS.iconst X0.here hx rfl (hb hby at_7) k) ?_
    show OwnGo p e below (s₁.setTop (mkF m 8 #[.val (.long p1), .second, .val (.long p2), .second, .val (.long p3), .second, .val (.int p4), .unset, .unset, .unset, .unset, .unset, .unset, .unset, .unset, .unset, .unset, .unset] [(.int (1 : Int32))])) _
    refine own_back (fun t k => XS.goto X0.here hx rfl (pc0 := 8) (pc' := 12) rfl (hb hby at_8) (by decide) (by decide) k) ?_
    show OwnGo p e below (s₁.setTop (mkF m 12 #[.val (.long p1), .second, .val (.long p2), .second, .val (.long p3), .second, .val (.int p4), .unset, .unset, .unset, .unset, .unset, .unset, .unset, .unset, .unset, .unset, .unset] [(.int (1 : Int32))])) _
    refine own_back (fun t k => XS.istore X0.here hx rfl (hb hby at_12) rfl (l' := #[.val (.long p1), .second, .val (.long p2), .second, .val (.long p3), .second, .val (.int p4), .val (.int (1 : Int32)), .unset, .unset, .unset, .unset, .unset, .unset, .unset, .unset, .unset, .unset]) rfl k) ?_
    show OwnGo p e below (s₁.setTop (mkF m 14 #[.val (.long p1), .second, .val (.long p2), .second, .val (.long p3), .second, .val (.int p4), .val (.int (1 : Int32)), .unset, .unset, .unset, .unset, .unset, .unset, .unset, .unset, .unset, .unset] [])) _
    refine own_back (fun t k => XS.iload X0.here hx rfl (hb hby at_14) rfl k) ?_
    show OwnGo p e below (s₁.setTop (mkF m 16 #[.val (.long p1), .second, .val (.long p2), .second, .val (.long p3), .second, .val (.int p4), .val (.int (1 : Int32)), .unset, .unset, .unset, .unset, .unset, .unset, .unset, .unset, .unset, .unset] [(.int p4)])) _
    refine own_back (fun t k => XS.iconst X0.here hx rfl (hb hby at_16) k) ?_
    show OwnGo p e below (s₁.setTop (mkF m 17 #[.val (.long p1), .second, .val (.long p2), .second, .val (.long p3), .second, .val (.int p4), .val (.int (1 : Int32)), .unset, .unset, .unset, .unset, .unset, .unset, .unset, .unset, .unset, .unset] [(.int (2 : Int32)), (.int p4)])) _
    refine own_back (fun t k => XS.iand X0.here hx rfl (hb hby at_17) rfl k) ?_
    show OwnGo p e below (s₁.setTop (mkF m 18 #[.val (.long p1), .second, .val (.long p2), .second, .val (.long p3), .second, .val (.int p4), .val (.int (1 : Int32)), .unset, .unset, .unset, .unset, .unset, .unset, .unset, .unset, .unset, .unset] [(.int (p4 &&& (2 : Int32)))])) _
    by_cases hc18_314 : (p4 &&& (2 : Int32)) = (0 : Int32)
    · refine own_back (fun t k => XS.ifYes X0.here hx rfl (pc0 := 18) (pc' := 25) rfl (hb hby at_18) rfl (Jvm.Free.XT.i0_eq_t hc18_314) (by decide) (by decide) k) ?_
      show OwnGo p e below (s₁.setTop (mkF m 25 #[.val (.long p1), .second, .val (.long p2), .second, .val (.long p3), .second, .val (.int p4), .val (.int (1 : Int32)), .unset, .unset, .unset, .unset, .unset, .unset, .unset, .unset, .unset, .unset] [])) _
      refine own_back (fun t k => XS.iconst X0.here hx rfl (hb hby at_25) k) ?_
      show OwnGo p e below (s₁.setTop (mkF m 26 #[.val (.long p1), .second, .val (.long p2), .second, .val (.long p3), .second, .val (.int p4), .val (.int (1 : Int32)), .unset, .unset, .unset, .unset, .unset, .unset, .unset, .unset, .unset, .unset] [(.int (0 : Int32))])) _
      refine own_back (fun t k => XS.istore X0.here hx rfl (hb hby at_26) rfl (l' := #[.val (.long p1), .second, .val (.long p2), .second, .val (.long p3), .second, .val (.int p4), .val (.int (1 : Int32)), .val (.int (0 : Int32)), .unset, .unset, .unset, .unset, .unset, .unset, .unset, .unset, .unset]) rfl k) ?_
      show OwnGo p e below (s₁.setTop (mkF m 28 #[.val (.long p1), .second, .val (.long p2), .second, .val (.long p3), .second, .val (.int p4), .val (.int (1 : Int32)), .val (.int (0 : Int32)), .unset, .unset, .unset, .unset, .unset, .unset, .unset, .unset, .unset] [])) _
      refine own_back (fun t k => XS.iload X0.here hx rfl (hb hby at_28) rfl k) ?_
      show OwnGo p e below (s₁.setTop (mkF m 30 #[.val (.long p1), .second, .val (.long p2), .second, .val (.long p3), .second, .val (.int p4), .val (.int (1 : Int32)), .val (.int (0 : Int32)), .unset, .unset, .unset, .unset, .unset, .unset, .unset, .unset, .unset] [(.int (0 : Int32))])) _
      refine own_back (fun t k => XS.ifYes X0.here hx rfl (pc0 := 30) (pc' := 90) rfl (hb hby at_30) rfl (Jvm.Free.XT.i0_eq_t (by decide)) (by decide) (by decide) k) ?_
      show OwnGo p e below (s₁.setTop (mkF m 90 #[.val (.long p1), .second, .val (.long p2), .second, .val (.long p3), .second, .val (.int p4), .val (.int (1 : Int32)), .val (.int (0 : Int32)), .unset, .unset, .unset, .unset, .unset, .unset, .unset, .unset, .unset] [])) _
      refine own_back (fun t k => XS.lconst X0.here hx rfl (hb hby at_90) k) ?_
      show OwnGo p e below (s₁.setTop (mkF m 91 #[.val (.long p1), .second, .val (.long p2), .second, .val (.long p3), .second, .val (.int p4), .val (.int (1 : Int32)), .val (.int (0 : Int32)), .unset, .unset, .unset, .unset, .unset, .unset, .unset, .unset, .unset] [(.long (0 : Int64))])) _
      refine own_back (fun t k => XS.lstore X0.here hx rfl (hb hby at_91) rfl (l' := #[.val (.long p1), .second, .val (.long p2), .second, .val (.long p3), .second, .val (.int p4), .val (.int (1 : Int32)), .val (.int (0 : Int32)), .val (.long (0 : Int64)), .second, .unset, .unset, .unset, .unset, .unset, .unset, .unset]) rfl k) ?_
      show OwnGo p e below (s₁.setTop (mkF m 93 #[.val (.long p1), .second, .val (.long p2), .second, .val (.long p3), .second, .val (.int p4), .val (.int (1 : Int32)), .val (.int (0 : Int32)), .val (.long (0 : Int64)), .second, .unset, .unset, .unset, .unset, .unset, .unset, .unset] [])) _
      refine own_back (fun t k => XS.lloadN X0.here hx rfl (hb hby at_93) rfl k) ?_
      show OwnGo p e below (s₁.setTop (mkF m 94 #[.val (.long p1), .second, .val (.long p2), .second, .val (.long p3), .second, .val (.int p4), .val (.int (1 : Int32)), .val (.int (0 : Int32)), .val (.long (0 : Int64)), .second, .unset, .unset, .unset, .unset, .unset, .unset, .unset] [(.long p1)])) _
      refine own_back (fun t k => X0.ldc2Long hx hown (mvT hZ (hw _ (List.mem_of_getElem? (i := 99) rfl))) (g := (mkF m 94 #[.val (.long p1), .second, .val (.long p2), .second, .val (.long p3), .second, .val (.int p4), .val (.int (1 : Int32)), .val (.int (0 : Int32)), .val (.long (0 : Int64)), .second, .unset, .unset, .unset, .unset, .unset, .unset, .unset] [(.long p1)])) rfl (hb hby at_94) t k) ?_
      show OwnGo p e below (s₁.setTop (mkF m 97 #[.val (.long p1), .second, .val (.long p2), .second, .val (.long p3), .second, .val (.int p4), .val (.int (1 : Int32)), .val (.int (0 : Int32)), .val (.long (0 : Int64)), .second, .unset, .unset, .unset, .unset, .unset, .unset, .unset] [(.long (9007199254740991 : Int64)), (.long p1)])) _
      refine own_back (fun t k => XS.land X0.here hx rfl (hb hby at_97) rfl k) ?_
      show OwnGo p e below (s₁.setTop (mkF m 98 #[.val (.long p1), .second, .val (.long p2), .second, .val (.long p3), .second, .val (.int p4), .val (.int (1 : Int32)), .val (.int (0 : Int32)), .val (.long (0 : Int64)), .second, .unset, .unset, .unset, .unset, .unset, .unset, .unset] [(.long (p1 &&& (9007199254740991 : Int64)))])) _
      refine own_back (fun t k => XS.lconst X0.here hx rfl (hb hby at_98) k) ?_
      show OwnGo p e below (s₁.setTop (mkF m 99 #[.val (.long p1), .second, .val (.long p2), .second, .val (.long p3), .second, .val (.int p4), .val (.int (1 : Int32)), .val (.int (0 : Int32)), .val (.long (0 : Int64)), .second, .unset, .unset, .unset, .unset, .unset, .unset, .unset] [(.long (1 : Int64)), (.long (p1 &&& (9007199254740991 : Int64)))])) _
      refine own_back (fun t k => XS.ladd X0.here hx rfl (hb hby at_99) rfl k) ?_
      show OwnGo p e below (s₁.setTop (mkF m 100 #[.val (.long p1), .second, .val (.long p2), .second, .val (.long p3), .second, .val (.int p4), .val (.int (1 : Int32)), .val (.int (0 : Int32)), .val (.long (0 : Int64)), .second, .unset, .unset, .unset, .unset, .unset, .unset, .unset] [(.long ((p1 &&& (9007199254740991 : Int64)) + (1 : Int64)))])) _
      refine own_back (fun t k => XS.lstore X0.here hx rfl (hb hby at_100) rfl (l' := #[.val (.long p1), .second, .val (.long p2), .second, .val (.long p3), .second, .val (.int p4), .val (.int (1 : Int32)), .val (.int (0 : Int32)), .val (.long (0 : Int64)), .second, .val (.long ((p1 &&& (9007199254740991 : Int64)) + (1 : Int64))), .second, .unset, .unset, .unset, .unset, .unset]) rfl k) ?_
      show OwnGo p e below (s₁.setTop (mkF m 102 #[.val (.long p1), .second, .val (.long p2), .second, .val (.long p3), .second, .val (.int p4), .val (.int (1 : Int32)), .val (.int (0 : Int32)), .val (.long (0 : Int64)), .second, .val (.long ((p1 &&& (9007199254740991 : Int64)) + (1 : Int64))), .second, .unset, .unset, .unset, .unset, .unset] [])) _
      have hs2 := own_s2 p1
      obtain ⟨sz, esz⟩ : ∃ z : Int64, z = ((p1 &&& (9007199254740991 : Int64)) + (1 : Int64)) := ⟨_, rfl⟩
      rw [← esz] at hs2
      rw [← esz]
      have hs1 := hs2.1
      show OwnGo p e below (s₁.setTop (mkF m 102 #[.val (.long p1), .second, .val (.long p2), .second, .val (.long p3), .second, .val (.int p4), .val (.int (1 : Int32)), .val (.int (0 : Int32)), .val (.long (0 : Int64)), .second, .val (.long sz), .second, .unset, .unset, .unset, .unset, .unset] [])) _
      obtain ⟨T315, h315, X315, e315, E315, A315, D315, -, st315⟩ := newO X0 hx hZ hown (hw _ (List.mem_of_getElem? (i := 100) rfl)) (hw _ (List.mem_of_getElem? (i := 22) rfl)) (hw _ (List.mem_of_getElem? (i := 17) rfl)) e0 (g := (mkF m 102 #[.val (.long p1), .second, .val (.long p2), .second, .val (.long p3), .second, .val (.int p4), .val (.int (1 : Int32)), .val (.int (0 : Int32)), .val (.long (0 : Int64)), .second, .val (.long sz), .second, .unset, .unset, .unset, .unset, .unset] [])) rfl (hb hby at_102) (Nat.le_of_ble_eq_true rfl) (Nat.le_of_ble_eq_true rfl)
      obtain ⟨b315, g315⟩ : ∃ z, z = h0.size := ⟨_, rfl⟩
      have ge316 : n0 ≤ b315 := Nat.le_trans Z0 (Nat.le_of_eq g315.symm)
      have sz317 : h0.size ≤ b315 := Nat.le_trans KP0.1 (Nat.le_of_eq g315.symm)
      rw [← g315] at A315 D315 st315
      have O318 := OL.ext E315
      have KP319 := KP0.ext E315
      have Zs320 := Nat.le_trans Z0 E315.1
      have CR321 := CR0.trans (CHr.ext E315 CR0.1)
      have hk322 := Nat.le_trans hk0 E315.1
      have F323 : Fld Z h315 b315 "com/example/sorted_set_patterns/sortedsetpatterns/Field" "name" "Ljava/lang/String;" .null := D315 (Or.inr (hw _ (List.mem_of_getElem? (i := 79) rfl))) (ty := (.object "java/lang/String")) (by decide)
      have F324 : Fld Z h315 b315 "com/example/sorted_set_patterns/sortedsetpatterns/Field" "min" "J" (.long (0 : Int64)) := D315 (Or.inr (hw _ (List.mem_of_getElem? (i := 81) rfl))) (ty := .long) (by decide)
      have F325 : Fld Z h315 b315 "com/example/sorted_set_patterns/sortedsetpatterns/Field" "max" "J" (.long (0 : Int64)) := D315 (Or.inr (hw _ (List.mem_of_getElem? (i := 83) rfl))) (ty := .long) (by decide)
      have F326 : Fld Z h315 b315 "com/example/sorted_set_patterns/sortedsetpatterns/Field" "order" "Lcom/example/sorted_set_patterns/sortedsetpatterns/Field$Order;" .null := D315 (Or.inr (hw _ (List.mem_of_getElem? (i := 89) rfl))) (ty := (.object "com/example/sorted_set_patterns/sortedsetpatterns/Field$Order")) (by decide)
      have F327 : Fld Z h315 b315 "com/example/sorted_set_patterns/sortedsetpatterns/Field" "instant" "Z" (.int (0 : Int32)) := D315 (Or.inr (hw _ (List.mem_of_getElem? (i := 91) rfl))) (ty := .boolean) (by decide)
      have sf328 := Safe.ext E315 CR0.1 (Safe.new (Nat.le_of_eq g315.symm))
      refine own_back st315 ?_
      show OwnGo p e below (T315.setTop (mkF m 105 #[.val (.long p1), .second, .val (.long p2), .second, .val (.long p3), .second, .val (.int p4), .val (.int (1 : Int32)), .val (.int (0 : Int32)), .val (.long (0 : Int64)), .second, .val (.long sz), .second, .unset, .unset, .unset, .unset, .unset] [(.ref b315)])) _
      refine own_back (fun t k => XS.dup X315.here hx rfl (hb hby at_105) rfl rfl k) ?_
      show OwnGo p e below (T315.setTop (mkF m 106 #[.val (.long p1), .second, .val (.long p2), .second, .val (.long p3), .second, .val (.int p4), .val (.int (1 : Int32)), .val (.int (0 : Int32)), .val (.long (0 : Int64)), .second, .val (.long sz), .second, .unset, .unset, .unset, .unset, .unset] [(.ref b315), (.ref b315)])) _
      obtain ⟨a329, T329, h329, k1329, t329, kb329, X329, e329, E329, hS329, hk329, hZ329, hown329, EX329, FC329, FV329, AV329, la329, lb329, CRl329, hLit329, sx329, st329⟩ := ldcCH X315 hx hZ hown (hw _ (List.mem_of_getElem? (i := 101) rfl)) (own_wS hw) e315 hS0 hk322 hEL (List.mem_of_getElem? (i := 3) rfl) CR321.1 (vs := [(.int 99)]) (z := 1) ⟨by decide, by decide⟩ (by decide) (by decide) (g := (mkF m 106 #[.val (.long p1), .second, .val (.long p2), .second, .val (.long p3), .second, .val (.int p4), .val (.int (1 : Int32)), .val (.int (0 : Int32)), .val (.long (0 : Int64)), .second, .val (.long sz), .second, .unset, .unset, .unset, .unset, .unset] [(.ref b315), (.ref b315)])) rfl (hb hby at_106) (n := 4) (Nat.le_of_ble_eq_true rfl) (by decide) (Nat.le_of_ble_eq_true rfl) (Nat.le_of_ble_eq_true rfl)
      have O330 := O318.ext E329
      have KP331 := KP319.ext E329
      have Zs332 := Nat.le_trans Zs320 E329.1
      have CR333 := CR321.trans CRl329
      have f334 := A315.ext E329
      have f335 := F323.ext E329
      have f336 := F324.ext E329
      have f337 := F325.ext E329
      have f338 := F326.ext E329
      have f339 := F327.ext E329
      have f340 := (CRl329.safe A315.lt sf328)
      refine own_back st329 ?_
      show OwnGo p e below (T329.setTop (mkF m 108 #[.val (.long p1), .second, .val (.long p2), .second, .val (.long p3), .second, .val (.int p4), .val (.int (1 : Int32)), .val (.int (0 : Int32)), .val (.long (0 : Int64)), .second, .val (.long sz), .second, .unset, .unset, .unset, .unset, .unset] [(.ref a329), (.ref b315), (.ref b315)])) _
      refine own_back (fun t k => XS.lload X329.here hx rfl (hb hby at_108) rfl k) ?_
      show OwnGo p e below (T329.setTop (mkF m 110 #[.val (.long p1), .second, .val (.long p2), .second, .val (.long p3), .second, .val (.int p4), .val (.int (1 : Int32)), .val (.int (0 : Int32)), .val (.long (0 : Int64)), .second, .val (.long sz), .second, .unset, .unset, .unset, .unset, .unset] [(.long sz), (.ref a329), (.ref b315), (.ref b315)])) _
      refine own_back (fun t k => XS.lconst X329.here hx rfl (hb hby at_110) k) ?_
      show OwnGo p e below (T329.setTop (mkF m 111 #[.val (.long p1), .second, .val (.long p2), .second, .val (.long p3), .second, .val (.int p4), .val (.int (1 : Int32)), .val (.int (0 : Int32)), .val (.long (0 : Int64)), .second, .val (.long sz), .second, .unset, .unset, .unset, .unset, .unset] [(.long (1 : Int64)), (.long sz), (.ref a329), (.ref b315), (.ref b315)])) _
      refine own_back (fun t k => XS.lsub X329.here hx rfl (hb hby at_111) rfl k) ?_
      show OwnGo p e below (T329.setTop (mkF m 112 #[.val (.long p1), .second, .val (.long p2), .second, .val (.long p3), .second, .val (.int p4), .val (.int (1 : Int32)), .val (.int (0 : Int32)), .val (.long (0 : Int64)), .second, .val (.long sz), .second, .unset, .unset, .unset, .unset, .unset] [(.long (sz - (1 : Int64))), (.ref a329), (.ref b315), (.ref b315)])) _
      refine own_back (fun t k => XS.iload X329.here hx rfl (hb hby at_112) rfl k) ?_
      show OwnGo p e below (T329.setTop (mkF m 114 #[.val (.long p1), .second, .val (.long p2), .second, .val (.long p3), .second, .val (.int p4), .val (.int (1 : Int32)), .val (.int (0 : Int32)), .val (.long (0 : Int64)), .second, .val (.long sz), .second, .unset, .unset, .unset, .unset, .unset] [(.int (1 : Int32)), (.long (sz - (1 : Int64))), (.ref a329), (.ref b315), (.ref b315)])) _
      refine own_back (fun t k => XS.ifNo X329.here hx rfl (hb hby at_114) rfl (Jvm.Free.XT.i0_eq_f (by decide)) k) ?_
      show OwnGo p e below (T329.setTop (mkF m 117 #[.val (.long p1), .second, .val (.long p2), .second, .val (.long p3), .second, .val (.int p4), .val (.int (1 : Int32)), .val (.int (0 : Int32)), .val (.long (0 : Int64)), .second, .val (.long sz), .second, .unset, .unset, .unset, .unset, .unset] [(.long (sz - (1 : Int64))), (.ref a329), (.ref b315), (.ref b315)])) _
      obtain ⟨T341, X341, e341, st341⟩ := getS2 X329 hx hZ329 hown329 (host := "") (Or.inl (hw _ (List.mem_of_getElem? (i := 106) rfl))) Via.refl e329 (SH.ext O330.2) (g := (mkF m 117 #[.val (.long p1), .second, .val (.long p2), .second, .val (.long p3), .second, .val (.int p4), .val (.int (1 : Int32)), .val (.int (0 : Int32)), .val (.long (0 : Int64)), .second, .val (.long sz), .second, .unset, .unset, .unset, .unset, .unset] [(.long (sz - (1 : Int64))), (.ref a329), (.ref b315), (.ref b315)])) rfl (hb hby at_117)
      refine own_back st341 ?_
      show OwnGo p e below (T341.setTop (mkF m 120 #[.val (.long p1), .second, .val (.long p2), .second, .val (.long p3), .second, .val (.int p4), .val (.int (1 : Int32)), .val (.int (0 : Int32)), .val (.long (0 : Int64)), .second, .val (.long sz), .second, .unset, .unset, .unset, .unset, .unset] [(.ref wh), (.long (sz - (1 : Int64))), (.ref a329), (.ref b315), (.ref b315)])) _
      refine own_back (fun t k => XS.goto X341.here hx rfl (pc0 := 120) (pc' := 126) rfl (hb hby at_120) (by decide) (by decide) k) ?_
      show OwnGo p e below (T341.setTop (mkF m 126 #[.val (.long p1), .second, .val (.long p2), .second, .val (.long p3), .second, .val (.int p4), .val (.int (1 : Int32)), .val (.int (0 : Int32)), .val (.long (0 : Int64)), .second, .val (.long sz), .second, .unset, .unset, .unset, .unset, .unset] [(.ref wh), (.long (sz - (1 : Int64))), (.ref a329), (.ref b315), (.ref b315)])) _
      obtain ⟨_, _, ⟨T342, L342, k342, n342⟩, -, X342, hSn342, hgr342, ⟨Lc342, hQ342, l342, y342, z342, CRn342⟩, st342⟩ := X341.specialBackS hx (y := (⟨"com/example/sorted_set_patterns/sortedsetpatterns/Field", "<init>", "(Ljava/lang/String;JLcom/example/sorted_set_patterns/sortedsetpatterns/Field$Order;)V"⟩ : MethodName)) rfl hown329 (mvT hZ329 (hw _ (List.mem_of_getElem? (i := 103) rfl))) (mvT hZ329 (hw _ (List.mem_of_getElem? (i := 104) rfl))) (mvT hZ329 (hw _ (List.mem_of_getElem? (i := 105) rfl))) (by decide) (own_backH (W := 1) (rm_f3 l Z a0 hw [] b315 a329 99 (sz - (1 : Int64)) wh .null (.long 0) (.long 0) .null (.int 0) cz fm h329 n0 Zs332 O330 f334 f335 f336 f337 f338 f339 ge316 (⟨_, _, EX329, FC329, FV329, AV329, by decide⟩ : OwnStr Z h329 a329 [99]) EH SC hcz SO hfm hs2.2.1 hs2.2.2) hZ329 (hw _ (List.mem_of_getElem? (i := 105) rfl)) (hw _ (List.mem_of_getElem? (i := 17) rfl)) (by decide) (by decide) hEL CR333.1 sf0 all0) (g := (mkF m 126 #[.val (.long p1), .second, .val (.long p2), .second, .val (.long p3), .second, .val (.int p4), .val (.int (1 : Int32)), .val (.int (0 : Int32)), .val (.long (0 : Int64)), .second, .val (.long sz), .second, .unset, .unset, .unset, .unset, .unset] [(.ref wh), (.long (sz - (1 : Int64))), (.ref a329), (.ref b315), (.ref b315)])) rfl (by rw [hml]; rfl) (Steps.refl _) (a := b315) (argsL := [(.ref a329), (.long (sz - (1 : Int64))), (.ref wh)]) (rest := [(.ref b315)]) (lenOf lw_pd0 rfl) rfl (by show 2 * 0 + _ ≤ _; exact Nat.le_of_eq rfl) (hb hby at_126) (fun _ _ => ⟨rfl, e341, Nat.le_of_ble_eq_true rfl, Nat.le_of_ble_eq_true rfl⟩)
      dsimp only [Pt.U, Pt.locs, Pt.cells, Pt.slots] at X342 l342 y342 z342 st342 hQ342 hSn342 hgr342 CRn342
      subst l342 y342 z342
      obtain ⟨Xr342, hSr342, hZr342, hownr342⟩ := rebS hS329 (own_hle e341 hk329) X342 hSn342 hgr342 hZ329 hown329
      obtain ⟨rfl, N342q, K342, Fmin342, Fmax342, Ford342⟩ := hQ342
      refine own_seq st342 ?_
      have N342 := Fr.app N0 N342q
      have O343 := O330.keep K342 (allS ge316 all0)
      have KP344 := KP331.trans K342 (allS (Or.inr sz317) all0)
      have Zs345 := Nat.le_trans Zs332 K342.1
      have CR346 := CR333.trans CRn342
      have f347 := f334.keep K342
      have f348 := (CRn342.safe f334.lt f340)
      have f349 := EX329.keep K342
      have f350 := FC329.keep K342 (ninS (Ne.symm (sx329 b315 f340).1) nin0)
      have f351 := FV329.keep K342 (ninS (Ne.symm (sx329 b315 f340).1) nin0)
      have f352 := AV329.keep K342 (ninS (Ne.symm (sx329 b315 f340).2) nin0)
      show OwnGo p e below (T342.setTop (mkF m 129 #[.val (.long p1), .second, .val (.long p2), .second, .val (.long p3), .second, .val (.int p4), .val (.int (1 : Int32)), .val (.int (0 : Int32)), .val (.long (0 : Int64)), .second, .val (.long sz), .second, .unset, .unset, .unset, .unset, .unset] [(.ref b315)])) _
      refine own_back (fun t k => XS.astore Xr342.here hx rfl (hb hby at_129) rfl rfl (l' := #[.val (.long p1), .second, .val (.long p2), .second, .val (.long p3), .second, .val (.int p4), .val (.int (1 : Int32)), .val (.int (0 : Int32)), .val (.long (0 : Int64)), .second, .val (.long sz), .second, .val (.ref b315), .unset, .unset, .unset, .unset]) rfl k) ?_
      show OwnGo p e below (T342.setTop (mkF m 131 #[.val (.long p1), .second, .val (.long p2), .second, .val (.long p3), .second, .val (.int p4), .val (.int (1 : Int32)), .val (.int (0 : Int32)), .val (.long (0 : Int64)), .second, .val (.long sz), .second, .val (.ref b315), .unset, .unset, .unset, .unset] [])) _
      refine own_back (fun t k => XS.lload Xr342.here hx rfl (hb hby at_131) rfl k) ?_
      show OwnGo p e below (T342.setTop (mkF m 133 #[.val (.long p1), .second, .val (.long p2), .second, .val (.long p3), .second, .val (.int p4), .val (.int (1 : Int32)), .val (.int (0 : Int32)), .val (.long (0 : Int64)), .second, .val (.long sz), .second, .val (.ref b315), .unset, .unset, .unset, .unset] [(.long p3)])) _
      refine own_back (fun t k => Xr342.ldc2Long hx hownr342 (mvT hZr342 (hw _ (List.mem_of_getElem? (i := 6) rfl))) (g := (mkF m 133 #[.val (.long p1), .second, .val (.long p2), .second, .val (.long p3), .second, .val (.int p4), .val (.int (1 : Int32)), .val (.int (0 : Int32)), .val (.long (0 : Int64)), .second, .val (.long sz), .second, .val (.ref b315), .unset, .unset, .unset, .unset] [(.long p3)])) rfl (hb hby at_133) t k) ?_
      show OwnGo p e below (T342.setTop (mkF m 136 #[.val (.long p1), .second, .val (.long p2), .second, .val (.long p3), .second, .val (.int p4), .val (.int (1 : Int32)), .val (.int (0 : Int32)), .val (.long (0 : Int64)), .second, .val (.long sz), .second, .val (.ref b315), .unset, .unset, .unset, .unset] [(.long (9223372036854775807 : Int64)), (.long p3)])) _
      refine own_back (fun t k => XS.land Xr342.here hx rfl (hb hby at_136) rfl k) ?_
      show OwnGo p e below (T342.setTop (mkF m 137 #[.val (.long p1), .second, .val (.long p2), .second, .val (.long p3), .second, .val (.int p4), .val (.int (1 : Int32)), .val (.int (0 : Int32)), .val (.long (0 : Int64)), .second, .val (.long sz), .second, .val (.ref b315), .unset, .unset, .unset, .unset] [(.long (p3 &&& (9223372036854775807 : Int64)))])) _
      refine own_back (fun t k => XS.lload Xr342.here hx rfl (hb hby at_137) rfl k) ?_
      show OwnGo p e below (T342.setTop (mkF m 139 #[.val (.long p1), .second, .val (.long p2), .second, .val (.long p3), .second, .val (.int p4), .val (.int (1 : Int32)), .val (.int (0 : Int32)), .val (.long (0 : Int64)), .second, .val (.long sz), .second, .val (.ref b315), .unset, .unset, .unset, .unset] [(.long sz), (.long (p3 &&& (9223372036854775807 : Int64)))])) _
      refine own_back (fun t k => own_lrem Xr342 hx rfl (hb hby at_139) rfl (own_nz hs1) k) ?_
      show OwnGo p e below (T342.setTop (mkF m 140 #[.val (.long p1), .second, .val (.long p2), .second, .val (.long p3), .second, .val (.int p4), .val (.int (1 : Int32)), .val (.int (0 : Int32)), .val (.long (0 : Int64)), .second, .val (.long sz), .second, .val (.ref b315), .unset, .unset, .unset, .unset] [(.long ((p3 &&& (9223372036854775807 : Int64)) % sz))])) _
      refine own_back (fun t k => XS.lstore Xr342.here hx rfl (hb hby at_140) rfl (l' := #[.val (.long p1), .second, .val (.long p2), .second, .val (.long p3), .second, .val (.int p4), .val (.int (1 : Int32)), .val (.int (0 : Int32)), .val (.long (0 : Int64)), .second, .val (.long sz), .second, .val (.ref b315), .val (.long ((p3 &&& (9223372036854775807 : Int64)) % sz)), .second, .unset, .unset]) rfl k) ?_
      show OwnGo p e below (T342.setTop (mkF m 142 #[.val (.long p1), .second, .val (.long p2), .second, .val (.long p3), .second, .val (.int p4), .val (.int (1 : Int32)), .val (.int (0 : Int32)), .val (.long (0 : Int64)), .second, .val (.long sz), .second, .val (.ref b315), .val (.long ((p3 &&& (9223372036854775807 : Int64)) % sz)), .second, .unset, .unset] [])) _
      obtain ⟨ix, eix⟩ : ∃ z : Int64, z = ((p3 &&& (9223372036854775807 : Int64)) % sz) := ⟨_, rfl⟩
      rw [← eix]
      show OwnGo p e below (T342.setTop (mkF m 142 #[.val (.long p1), .second, .val (.long p2), .second, .val (.long p3), .second, .val (.int p4), .val (.int (1 : Int32)), .val (.int (0 : Int32)), .val (.long (0 : Int64)), .second, .val (.long sz), .second, .val (.ref b315), .val (.long ix), .second, .unset, .unset] [])) _
      refine own_back (fun t k => XS.iload Xr342.here hx rfl (hb hby at_142) rfl k) ?_
      show OwnGo p e below (T342.setTop (mkF m 144 #[.val (.long p1), .second, .val (.long p2), .second, .val (.long p3), .second, .val (.int p4), .val (.int (1 : Int32)), .val (.int (0 : Int32)), .val (.long (0 : Int64)), .second, .val (.long sz), .second, .val (.ref b315), .val (.long ix), .second, .unset, .unset] [(.int (1 : Int32))])) _
      refine own_back (fun t k => XS.ifNo Xr342.here hx rfl (hb hby at_144) rfl (Jvm.Free.XT.i0_eq_f (by decide)) k) ?_
      show OwnGo p e below (T342.setTop (mkF m 147 #[.val (.long p1), .second, .val (.long p2), .second, .val (.long p3), .second, .val (.int p4), .val (.int (1 : Int32)), .val (.int (0 : Int32)), .val (.long (0 : Int64)), .second, .val (.long sz), .second, .val (.ref b315), .val (.long ix), .second, .unset, .unset] [])) _
      refine own_back (fun t k => XS.lload Xr342.here hx rfl (hb hby at_147) rfl k) ?_
      show OwnGo p e below (T342.setTop (mkF m 149 #[.val (.long p1), .second, .val (.long p2), .second, .val (.long p3), .second, .val (.int p4), .val (.int (1 : Int32)), .val (.int (0 : Int32)), .val (.long (0 : Int64)), .second, .val (.long sz), .second, .val (.ref b315), .val (.long ix), .second, .unset, .unset] [(.long ix)])) _
      refine own_back (fun t k => XS.goto Xr342.here hx rfl (pc0 := 149) (pc' := 159) rfl (hb hby at_149) (by decide) (by decide) k) ?_
      show OwnGo p e below (T342.setTop (mkF m 159 #[.val (.long p1), .second, .val (.long p2), .second, .val (.long p3), .second, .val (.int p4), .val (.int (1 : Int32)), .val (.int (0 : Int32)), .val (.long (0 : Int64)), .second, .val (.long sz), .second, .val (.ref b315), .val (.long ix), .second, .unset, .unset] [(.long ix)])) _
      refine own_back (fun t k => XS.lstore Xr342.here hx rfl (hb hby at_159) rfl (l' := #[.val (.long p1), .second, .val (.long p2), .second, .val (.long p3), .second, .val (.int p4), .val (.int (1 : Int32)), .val (.int (0 : Int32)), .val (.long (0 : Int64)), .second, .val (.long sz), .second, .val (.ref b315), .val (.long ix), .second, .val (.long ix), .second]) rfl k) ?_
      show OwnGo p e below (T342.setTop (mkF m 161 #[.val (.long p1), .second, .val (.long p2), .second, .val (.long p3), .second, .val (.int p4), .val (.int (1 : Int32)), .val (.int (0 : Int32)), .val (.long (0 : Int64)), .second, .val (.long sz), .second, .val (.ref b315), .val (.long ix), .second, .val (.long ix), .second] [])) _
      refine own_back (fun t k => XS.aload Xr342.here hx rfl (hb hby at_161) rfl rfl k) ?_
      show OwnGo p e below (T342.setTop (mkF m 163 #[.val (.long p1), .second, .val (.long p2), .second, .val (.long p3), .second, .val (.int p4), .val (.int (1 : Int32)), .val (.int (0 : Int32)), .val (.long (0 : Int64)), .second, .val (.long sz), .second, .val (.ref b315), .val (.long ix), .second, .val (.long ix), .second] [(.ref b315)])) _
      refine own_back (fun t k => XS.lload Xr342.here hx rfl (hb hby at_163) rfl k) ?_
      show OwnGo p e below (T342.setTop (mkF m 165 #[.val (.long p1), .second, .val (.long p2), .second, .val (.long p3), .second, .val (.int p4), .val (.int (1 : Int32)), .val (.int (0 : Int32)), .val (.long (0 : Int64)), .second, .val (.long sz), .second, .val (.ref b315), .val (.long ix), .second, .val (.long ix), .second] [(.long (0 : Int64)), (.ref b315)])) _
      refine own_back (fun t k => XS.lload Xr342.here hx rfl (hb hby at_165) rfl k) ?_
      show OwnGo p e below (T342.setTop (mkF m 167 #[.val (.long p1), .second, .val (.long p2), .second, .val (.long p3), .second, .val (.int p4), .val (.int (1 : Int32)), .val (.int (0 : Int32)), .val (.long (0 : Int64)), .second, .val (.long sz), .second, .val (.ref b315), .val (.long ix), .second, .val (.long ix), .second] [(.long ix), (.long (0 : Int64)), (.ref b315)])) _
      refine own_back (fun t k => XS.ladd Xr342.here hx rfl (hb hby at_167) rfl k) ?_
      show OwnGo p e below (T342.setTop (mkF m 168 #[.val (.long p1), .second, .val (.long p2), .second, .val (.long p3), .second, .val (.int p4), .val (.int (1 : Int32)), .val (.int (0 : Int32)), .val (.long (0 : Int64)), .second, .val (.long sz), .second, .val (.ref b315), .val (.long ix), .second, .val (.long ix), .second] [(.long ((0 : Int64) + ix)), (.ref b315)])) _
      obtain ⟨cq353, kq353, q353a, q353b, q353c⟩ := isOf hZr342 rfl f347
      obtain ⟨_, _, ⟨T353, L353, k353, n353⟩, -, X353, ⟨Lc353, hQ353, l353, y353, z353⟩, st353⟩ := Xr342.virtualBack hx (y := (⟨"com/example/sorted_set_patterns/sortedsetpatterns/Field", "digit", "(J)J"⟩ : MethodName)) (z := (⟨"com/example/sorted_set_patterns/sortedsetpatterns/Field", "digit", "(J)J"⟩ : MethodName)) hownr342 (mvT hZr342 (hw _ (List.mem_of_getElem? (i := 92) rfl))) (mvT hZr342 (hw _ (List.mem_of_getElem? (i := 93) rfl))) (notFace_of_selects (args := #[]) (mvT hZr342 (hw _ (List.mem_of_getElem? (i := 95) rfl)))) (mvT hZr342 (hw _ (List.mem_of_getElem? (i := 95) rfl))) (mvT hZr342 (hw _ (List.mem_of_getElem? (i := 94) rfl))) (by decide) (own_backN (W := 0) (rm_dg l Z a0 hw [] b315 ((0 : Int64) + ix) (0 : Int64) (sz - (1 : Int64)) wh wh T342.heap n0 Zs345 O343 Fmin342 Fmax342 Ford342 SH) hZr342 (hw _ (List.mem_of_getElem? (i := 96) rfl)) (hw _ (List.mem_of_getElem? (i := 17) rfl)) (by decide) (by decide)) q353a q353c (g := (mkF m 168 #[.val (.long p1), .second, .val (.long p2), .second, .val (.long p3), .second, .val (.int p4), .val (.int (1 : Int32)), .val (.int (0 : Int32)), .val (.long (0 : Int64)), .second, .val (.long sz), .second, .val (.ref b315), .val (.long ix), .second, .val (.long ix), .second] [(.long ((0 : Int64) + ix)), (.ref b315)])) rfl (by rw [hml]; rfl) (Steps.refl _) (argsL := [(.long ((0 : Int64) + ix))]) (rest := []) (lenOf lw_pd1 rfl) rfl (by show 2 * 0 + _ ≤ _; exact Nat.le_of_eq rfl) (hb hby at_168) (fun _ _ => ⟨rfl, rfl, Nat.le_of_ble_eq_true rfl, Nat.le_of_ble_eq_true rfl⟩)
      dsimp only [Pt.U, Pt.locs, Pt.cells, Pt.slots] at X353 l353 y353 z353 st353 hQ353
      subst l353 y353 z353
      rw [if_pos rfl, own_fin3 ix] at hQ353
      obtain ⟨rfl, N353q, hh353⟩ := hQ353
      refine own_seq st353 ?_
      have N353 := Fr.app N342 N353q
      show OwnGo p e below (T353.setTop (mkF m 171 #[.val (.long p1), .second, .val (.long p2), .second, .val (.long p3), .second, .val (.int p4), .val (.int (1 : Int32)), .val (.int (0 : Int32)), .val (.long (0 : Int64)), .second, .val (.long sz), .second, .val (.ref b315), .val (.long ix), .second, .val (.long ix), .second] [(.long ix)])) _
      refine own_back (fun t k => XS.lload X353.here hx rfl (hb hby at_171) rfl k) ?_
      show OwnGo p e below (T353.setTop (mkF m 173 #[.val (.long p1), .second, .val (.long p2), .second, .val (.long p3), .second, .val (.int p4), .val (.int (1 : Int32)), .val (.int (0 : Int32)), .val (.long (0 : Int64)), .second, .val (.long sz), .second, .val (.ref b315), .val (.long ix), .second, .val (.long ix), .second] [(.long ix), (.long ix)])) _
      refine own_back (fun t k => XT.lcmp X353.here hx rfl (hb hby at_173) rfl k) ?_
      show OwnGo p e below (T353.setTop (mkF m 174 #[.val (.long p1), .second, .val (.long p2), .second, .val (.long p3), .second, .val (.int p4), .val (.int (1 : Int32)), .val (.int (0 : Int32)), .val (.long (0 : Int64)), .second, .val (.long sz), .second, .val (.ref b315), .val (.long ix), .second, .val (.long ix), .second] [(.int (XT.cmpL ix ix))])) _
      refine own_back (fun t k => XS.ifNo X353.here hx rfl (hb hby at_174) rfl (Jvm.Free.XT.ll_ne_f rfl) k) ?_
      show OwnGo p e below (T353.setTop (mkF m 177 #[.val (.long p1), .second, .val (.long p2), .second, .val (.long p3), .second, .val (.int p4), .val (.int (1 : Int32)), .val (.int (0 : Int32)), .val (.long (0 : Int64)), .second, .val (.long sz), .second, .val (.ref b315), .val (.long ix), .second, .val (.long ix), .second] [])) _
      refine own_back (fun t k => XS.iconst X353.here hx rfl (hb hby at_177) k) ?_
      show OwnGo p e below (T353.setTop (mkF m 178 #[.val (.long p1), .second, .val (.long p2), .second, .val (.long p3), .second, .val (.int p4), .val (.int (1 : Int32)), .val (.int (0 : Int32)), .val (.long (0 : Int64)), .second, .val (.long sz), .second, .val (.ref b315), .val (.long ix), .second, .val (.long ix), .second] [(.int (1 : Int32))])) _
      refine own_back (fun t k => XS.goto X353.here hx rfl (pc0 := 178) (pc' := 182) rfl (hb hby at_178) (by decide) (by decide) k) ?_
      show OwnGo p e below (T353.setTop (mkF m 182 #[.val (.long p1), .second, .val (.long p2), .second, .val (.long p3), .second, .val (.int p4), .val (.int (1 : Int32)), .val (.int (0 : Int32)), .val (.long (0 : Int64)), .second, .val (.long sz), .second, .val (.ref b315), .val (.long ix), .second, .val (.long ix), .second] [(.int (1 : Int32))])) _
      refine own_retNW X353 hx Bd.notSynchronized (t := .boolean) (z := (1 : Int32)) Bd.returns (by simp) rfl hSr342 (Nat.le_refl _) hZr342 hEL (hh ▸ CR346) (hb hby at_182) hh353 (Nat.le_of_ble_eq_true rfl) (Nat.le_of_ble_eq_true rfl) ?_
      exact ⟨rfl, N353⟩
    · refine own_back (fun t k => XS.ifNo X0.here hx rfl (hb hby at_18) rfl (Jvm.Free.XT.i0_eq_f hc18_314) k) ?_
      show OwnGo p e below (s₁.setTop (mkF m 21 #[.val (.long p1), .second, .val (.long p2), .second, .val (.long p3), .second, .val (.int p4), .val (.int (1 : Int32)), .unset, .unset, .unset, .unset, .unset, .unset, .unset, .unset, .unset, .unset] [])) _
      refine own_back (fun t k => XS.iconst X0.here hx rfl (hb hby at_21) k) ?_
      show OwnGo p e below (s₁.setTop (mkF m 22 #[.val (.long p1), .second, .val (.long p2), .second, .val (.long p3), .second, .val (.int p4), .val (.int (1 : Int32)), .unset, .unset, .unset, .unset, .unset, .unset, .unset, .unset, .unset, .unset] [(.int (1 : Int32))])) _
      refine own_back (fun t k => XS.goto X0.here hx rfl (pc0 := 22) (pc' := 26) rfl (hb hby at_22) (by decide) (by decide) k) ?_
      show OwnGo p e below (s₁.setTop (mkF m 26 #[.val (.long p1), .second, .val (.long p2), .second, .val (.long p3), .second, .val (.int p4), .val (.int (1 : Int32)), .unset, .unset, .unset, .unset, .unset, .unset, .unset, .unset, .unset, .unset] [(.int (1 : Int32))])) _
      refine own_back (fun t k => XS.istore X0.here hx rfl (hb hby at_26) rfl (l' := #[.val (.long p1), .second, .val (.long p2), .second, .val (.long p3), .second, .val (.int p4), .val (.int (1 : Int32)), .val (.int (1 : Int32)), .unset, .unset, .unset, .unset, .unset, .unset, .unset, .unset, .unset]) rfl k) ?_
      show OwnGo p e below (s₁.setTop (mkF m 28 #[.val (.long p1), .second, .val (.long p2), .second, .val (.long p3), .second, .val (.int p4), .val (.int (1 : Int32)), .val (.int (1 : Int32)), .unset, .unset, .unset, .unset, .unset, .unset, .unset, .unset, .unset] [])) _
      refine own_back (fun t k => XS.iload X0.here hx rfl (hb hby at_28) rfl k) ?_
      show OwnGo p e below (s₁.setTop (mkF m 30 #[.val (.long p1), .second, .val (.long p2), .second, .val (.long p3), .second, .val (.int p4), .val (.int (1 : Int32)), .val (.int (1 : Int32)), .unset, .unset, .unset, .unset, .unset, .unset, .unset, .unset, .unset] [(.int (1 : Int32))])) _
      refine own_back (fun t k => XS.ifNo X0.here hx rfl (hb hby at_30) rfl (Jvm.Free.XT.i0_eq_f (by decide)) k) ?_
      show OwnGo p e below (s₁.setTop (mkF m 33 #[.val (.long p1), .second, .val (.long p2), .second, .val (.long p3), .second, .val (.int p4), .val (.int (1 : Int32)), .val (.int (1 : Int32)), .unset, .unset, .unset, .unset, .unset, .unset, .unset, .unset, .unset] [])) _
      refine own_back (fun t k => XS.lloadN X0.here hx rfl (hb hby at_33) rfl k) ?_
      show OwnGo p e below (s₁.setTop (mkF m 34 #[.val (.long p1), .second, .val (.long p2), .second, .val (.long p3), .second, .val (.int p4), .val (.int (1 : Int32)), .val (.int (1 : Int32)), .unset, .unset, .unset, .unset, .unset, .unset, .unset, .unset, .unset] [(.long p1)])) _
      refine own_back (fun t k => X0.ldc2Long hx hown (mvT hZ (hw _ (List.mem_of_getElem? (i := 0) rfl))) (g := (mkF m 34 #[.val (.long p1), .second, .val (.long p2), .second, .val (.long p3), .second, .val (.int p4), .val (.int (1 : Int32)), .val (.int (1 : Int32)), .unset, .unset, .unset, .unset, .unset, .unset, .unset, .unset, .unset] [(.long p1)])) rfl (hb hby at_34) t k) ?_
      show OwnGo p e below (s₁.setTop (mkF m 37 #[.val (.long p1), .second, .val (.long p2), .second, .val (.long p3), .second, .val (.int p4), .val (.int (1 : Int32)), .val (.int (1 : Int32)), .unset, .unset, .unset, .unset, .unset, .unset, .unset, .unset, .unset] [(.long (18014398509481983 : Int64)), (.long p1)])) _
      refine own_back (fun t k => XS.land X0.here hx rfl (hb hby at_37) rfl k) ?_
      show OwnGo p e below (s₁.setTop (mkF m 38 #[.val (.long p1), .second, .val (.long p2), .second, .val (.long p3), .second, .val (.int p4), .val (.int (1 : Int32)), .val (.int (1 : Int32)), .unset, .unset, .unset, .unset, .unset, .unset, .unset, .unset, .unset] [(.long (p1 &&& (18014398509481983 : Int64)))])) _
      refine own_back (fun t k => X0.ldc2Long hx hown (mvT hZ (hw _ (List.mem_of_getElem? (i := 1) rfl))) (g := (mkF m 38 #[.val (.long p1), .second, .val (.long p2), .second, .val (.long p3), .second, .val (.int p4), .val (.int (1 : Int32)), .val (.int (1 : Int32)), .unset, .unset, .unset, .unset, .unset, .unset, .unset, .unset, .unset] [(.long (p1 &&& (18014398509481983 : Int64)))])) rfl (hb hby at_38) t k) ?_
      show OwnGo p e below (s₁.setTop (mkF m 41 #[.val (.long p1), .second, .val (.long p2), .second, .val (.long p3), .second, .val (.int p4), .val (.int (1 : Int32)), .val (.int (1 : Int32)), .unset, .unset, .unset, .unset, .unset, .unset, .unset, .unset, .unset] [(.long (9007199254740992 : Int64)), (.long (p1 &&& (18014398509481983 : Int64)))])) _
      refine own_back (fun t k => XS.lsub X0.here hx rfl (hb hby at_41) rfl k) ?_
      show OwnGo p e below (s₁.setTop (mkF m 42 #[.val (.long p1), .second, .val (.long p2), .second, .val (.long p3), .second, .val (.int p4), .val (.int (1 : Int32)), .val (.int (1 : Int32)), .unset, .unset, .unset, .unset, .unset, .unset, .unset, .unset, .unset] [(.long ((p1 &&& (18014398509481983 : Int64)) - (9007199254740992 : Int64)))])) _
      refine own_back (fun t k => XS.lstore X0.here hx rfl (hb hby at_42) rfl (l' := #[.val (.long p1), .second, .val (.long p2), .second, .val (.long p3), .second, .val (.int p4), .val (.int (1 : Int32)), .val (.int (1 : Int32)), .val (.long ((p1 &&& (18014398509481983 : Int64)) - (9007199254740992 : Int64))), .second, .unset, .unset, .unset, .unset, .unset, .unset, .unset]) rfl k) ?_
      show OwnGo p e below (s₁.setTop (mkF m 44 #[.val (.long p1), .second, .val (.long p2), .second, .val (.long p3), .second, .val (.int p4), .val (.int (1 : Int32)), .val (.int (1 : Int32)), .val (.long ((p1 &&& (18014398509481983 : Int64)) - (9007199254740992 : Int64))), .second, .unset, .unset, .unset, .unset, .unset, .unset, .unset] [])) _
      have hlo := own_lo p1
      obtain ⟨lo, elo⟩ : ∃ z : Int64, z = ((p1 &&& (18014398509481983 : Int64)) - (9007199254740992 : Int64)) := ⟨_, rfl⟩
      rw [← elo] at hlo
      rw [← elo]
      show OwnGo p e below (s₁.setTop (mkF m 44 #[.val (.long p1), .second, .val (.long p2), .second, .val (.long p3), .second, .val (.int p4), .val (.int (1 : Int32)), .val (.int (1 : Int32)), .val (.long lo), .second, .unset, .unset, .unset, .unset, .unset, .unset, .unset] [])) _
      refine own_back (fun t k => X0.ldc2Long hx hown (mvT hZ (hw _ (List.mem_of_getElem? (i := 1) rfl))) (g := (mkF m 44 #[.val (.long p1), .second, .val (.long p2), .second, .val (.long p3), .second, .val (.int p4), .val (.int (1 : Int32)), .val (.int (1 : Int32)), .val (.long lo), .second, .unset, .unset, .unset, .unset, .unset, .unset, .unset] [])) rfl (hb hby at_44) t k) ?_
      show OwnGo p e below (s₁.setTop (mkF m 47 #[.val (.long p1), .second, .val (.long p2), .second, .val (.long p3), .second, .val (.int p4), .val (.int (1 : Int32)), .val (.int (1 : Int32)), .val (.long lo), .second, .unset, .unset, .unset, .unset, .unset, .unset, .unset] [(.long (9007199254740992 : Int64))])) _
      refine own_back (fun t k => X0.ldc2Long hx hown (mvT hZ (hw _ (List.mem_of_getElem? (i := 1) rfl))) (g := (mkF m 47 #[.val (.long p1), .second, .val (.long p2), .second, .val (.long p3), .second, .val (.int p4), .val (.int (1 : Int32)), .val (.int (1 : Int32)), .val (.long lo), .second, .unset, .unset, .unset, .unset, .unset, .unset, .unset] [(.long (9007199254740992 : Int64))])) rfl (hb hby at_47) t k) ?_
      show OwnGo p e below (s₁.setTop (mkF m 50 #[.val (.long p1), .second, .val (.long p2), .second, .val (.long p3), .second, .val (.int p4), .val (.int (1 : Int32)), .val (.int (1 : Int32)), .val (.long lo), .second, .unset, .unset, .unset, .unset, .unset, .unset, .unset] [(.long (9007199254740992 : Int64)), (.long (9007199254740992 : Int64))])) _
      refine own_back (fun t k => XS.lload X0.here hx rfl (hb hby at_50) rfl k) ?_
      show OwnGo p e below (s₁.setTop (mkF m 52 #[.val (.long p1), .second, .val (.long p2), .second, .val (.long p3), .second, .val (.int p4), .val (.int (1 : Int32)), .val (.int (1 : Int32)), .val (.long lo), .second, .unset, .unset, .unset, .unset, .unset, .unset, .unset] [(.long lo), (.long (9007199254740992 : Int64)), (.long (9007199254740992 : Int64))])) _
      refine own_back (fun t k => XS.lsub X0.here hx rfl (hb hby at_52) rfl k) ?_
      show OwnGo p e below (s₁.setTop (mkF m 53 #[.val (.long p1), .second, .val (.long p2), .second, .val (.long p3), .second, .val (.int p4), .val (.int (1 : Int32)), .val (.int (1 : Int32)), .val (.long lo), .second, .unset, .unset, .unset, .unset, .unset, .unset, .unset] [(.long ((9007199254740992 : Int64) - lo)), (.long (9007199254740992 : Int64))])) _
      obtain ⟨_, _, ⟨T354, L354, k354, n354⟩, -, X354, ⟨Lc354, hQ354, l354, y354, z354⟩, st354⟩ := Jvm.LawKit.callS X0 hx (y := (⟨"java/lang/Math", "min", "(JJ)J"⟩ : MethodName)) hown (mvT hZ (hw _ (List.mem_of_getElem? (i := 2) rfl))) (mvT hZ (hw _ (List.mem_of_getElem? (i := 3) rfl))) (mvT hZ (hw _ (List.mem_of_getElem? (i := 4) rfl))) (mvT hZ (hw _ (List.mem_of_getElem? (i := 5) rfl))) (by decide) (own_backN (W := 0) (rm_mi l Z a0 hw [] (9007199254740992 : Int64) ((9007199254740992 : Int64) - lo) h0 n0 Z0) hZ (hw _ (List.mem_of_getElem? (i := 5) rfl)) (hw _ (List.mem_of_getElem? (i := 4) rfl)) (by decide) (by decide)) (g := (mkF m 53 #[.val (.long p1), .second, .val (.long p2), .second, .val (.long p3), .second, .val (.int p4), .val (.int (1 : Int32)), .val (.int (1 : Int32)), .val (.long lo), .second, .unset, .unset, .unset, .unset, .unset, .unset, .unset] [(.long ((9007199254740992 : Int64) - lo)), (.long (9007199254740992 : Int64))])) rfl (by rw [hml]; rfl) (argsL := [(.long (9007199254740992 : Int64)), (.long ((9007199254740992 : Int64) - lo))]) (rest := []) (lenOf lw_pd2 rfl) rfl (by show 2 * 0 + _ ≤ _; exact Nat.le_of_eq rfl) (hb hby at_53) (fun _ _ => ⟨rfl, e0, Nat.le_of_ble_eq_true rfl, Nat.le_of_ble_eq_true rfl⟩)
      dsimp only [Pt.U, Pt.locs, Pt.cells, Pt.slots] at X354 l354 y354 z354 st354 hQ354
      subst l354 y354 z354
      obtain ⟨rfl, N354q, hh354⟩ := hQ354
      refine own_back st354 ?_
      have N354 := Fr.app N0 N354q
      show OwnGo p e below (T354.setTop (mkF m 56 #[.val (.long p1), .second, .val (.long p2), .second, .val (.long p3), .second, .val (.int p4), .val (.int (1 : Int32)), .val (.int (1 : Int32)), .val (.long lo), .second, .unset, .unset, .unset, .unset, .unset, .unset, .unset] [(.long (own_min (9007199254740992 : Int64) ((9007199254740992 : Int64) - lo)))])) _
      refine own_back (fun t k => XS.lstore X354.here hx rfl (hb hby at_56) rfl (l' := #[.val (.long p1), .second, .val (.long p2), .second, .val (.long p3), .second, .val (.int p4), .val (.int (1 : Int32)), .val (.int (1 : Int32)), .val (.long lo), .second, .unset, .unset, .unset, .val (.long (own_min (9007199254740992 : Int64) ((9007199254740992 : Int64) - lo))), .second, .unset, .unset]) rfl k) ?_
      show OwnGo p e below (T354.setTop (mkF m 58 #[.val (.long p1), .second, .val (.long p2), .second, .val (.long p3), .second, .val (.int p4), .val (.int (1 : Int32)), .val (.int (1 : Int32)), .val (.long lo), .second, .unset, .unset, .unset, .val (.long (own_min (9007199254740992 : Int64) ((9007199254740992 : Int64) - lo))), .second, .unset, .unset] [])) _
      have hrm := own_room hlo.1 hlo.2
      obtain ⟨rm, erm⟩ : ∃ z : Int64, z = (own_min (9007199254740992 : Int64) ((9007199254740992 : Int64) - lo)) := ⟨_, rfl⟩
      rw [← erm] at hrm
      rw [← erm]
      show OwnGo p e below (T354.setTop (mkF m 58 #[.val (.long p1), .second, .val (.long p2), .second, .val (.long p3), .second, .val (.int p4), .val (.int (1 : Int32)), .val (.int (1 : Int32)), .val (.long lo), .second, .unset, .unset, .unset, .val (.long rm), .second, .unset, .unset] [])) _
      refine own_back (fun t k => XS.lconst X354.here hx rfl (hb hby at_58) k) ?_
      show OwnGo p e below (T354.setTop (mkF m 59 #[.val (.long p1), .second, .val (.long p2), .second, .val (.long p3), .second, .val (.int p4), .val (.int (1 : Int32)), .val (.int (1 : Int32)), .val (.long lo), .second, .unset, .unset, .unset, .val (.long rm), .second, .unset, .unset] [(.long (1 : Int64))])) _
      refine own_back (fun t k => XS.lloadN X354.here hx rfl (hb hby at_59) rfl k) ?_
      show OwnGo p e below (T354.setTop (mkF m 60 #[.val (.long p1), .second, .val (.long p2), .second, .val (.long p3), .second, .val (.int p4), .val (.int (1 : Int32)), .val (.int (1 : Int32)), .val (.long lo), .second, .unset, .unset, .unset, .val (.long rm), .second, .unset, .unset] [(.long p2), (.long (1 : Int64))])) _
      refine own_back (fun t k => X354.ldc2Long hx hown (mvT hZ (hw _ (List.mem_of_getElem? (i := 6) rfl))) (g := (mkF m 60 #[.val (.long p1), .second, .val (.long p2), .second, .val (.long p3), .second, .val (.int p4), .val (.int (1 : Int32)), .val (.int (1 : Int32)), .val (.long lo), .second, .unset, .unset, .unset, .val (.long rm), .second, .unset, .unset] [(.long p2), (.long (1 : Int64))])) rfl (hb hby at_60) t k) ?_
      show OwnGo p e below (T354.setTop (mkF m 63 #[.val (.long p1), .second, .val (.long p2), .second, .val (.long p3), .second, .val (.int p4), .val (.int (1 : Int32)), .val (.int (1 : Int32)), .val (.long lo), .second, .unset, .unset, .unset, .val (.long rm), .second, .unset, .unset] [(.long (9223372036854775807 : Int64)), (.long p2), (.long (1 : Int64))])) _
      refine own_back (fun t k => XS.land X354.here hx rfl (hb hby at_63) rfl k) ?_
      show OwnGo p e below (T354.setTop (mkF m 64 #[.val (.long p1), .second, .val (.long p2), .second, .val (.long p3), .second, .val (.int p4), .val (.int (1 : Int32)), .val (.int (1 : Int32)), .val (.long lo), .second, .unset, .unset, .unset, .val (.long rm), .second, .unset, .unset] [(.long (p2 &&& (9223372036854775807 : Int64))), (.long (1 : Int64))])) _
      refine own_back (fun t k => XS.lload X354.here hx rfl (hb hby at_64) rfl k) ?_
      show OwnGo p e below (T354.setTop (mkF m 66 #[.val (.long p1), .second, .val (.long p2), .second, .val (.long p3), .second, .val (.int p4), .val (.int (1 : Int32)), .val (.int (1 : Int32)), .val (.long lo), .second, .unset, .unset, .unset, .val (.long rm), .second, .unset, .unset] [(.long rm), (.long (p2 &&& (9223372036854775807 : Int64))), (.long (1 : Int64))])) _
      refine own_back (fun t k => own_lrem X354 hx rfl (hb hby at_66) rfl (own_nz hrm.1) k) ?_
      show OwnGo p e below (T354.setTop (mkF m 67 #[.val (.long p1), .second, .val (.long p2), .second, .val (.long p3), .second, .val (.int p4), .val (.int (1 : Int32)), .val (.int (1 : Int32)), .val (.long lo), .second, .unset, .unset, .unset, .val (.long rm), .second, .unset, .unset] [(.long ((p2 &&& (9223372036854775807 : Int64)) % rm)), (.long (1 : Int64))])) _
      refine own_back (fun t k => XS.ladd X354.here hx rfl (hb hby at_67) rfl k) ?_
      show OwnGo p e below (T354.setTop (mkF m 68 #[.val (.long p1), .second, .val (.long p2), .second, .val (.long p3), .second, .val (.int p4), .val (.int (1 : Int32)), .val (.int (1 : Int32)), .val (.long lo), .second, .unset, .unset, .unset, .val (.long rm), .second, .unset, .unset] [(.long ((1 : Int64) + ((p2 &&& (9223372036854775807 : Int64)) % rm)))])) _
      refine own_back (fun t k => XS.lstore X354.here hx rfl (hb hby at_68) rfl (l' := #[.val (.long p1), .second, .val (.long p2), .second, .val (.long p3), .second, .val (.int p4), .val (.int (1 : Int32)), .val (.int (1 : Int32)), .val (.long lo), .second, .val (.long ((1 : Int64) + ((p2 &&& (9223372036854775807 : Int64)) % rm))), .second, .unset, .val (.long rm), .second, .unset, .unset]) rfl k) ?_
      show OwnGo p e below (T354.setTop (mkF m 70 #[.val (.long p1), .second, .val (.long p2), .second, .val (.long p3), .second, .val (.int p4), .val (.int (1 : Int32)), .val (.int (1 : Int32)), .val (.long lo), .second, .val (.long ((1 : Int64) + ((p2 &&& (9223372036854775807 : Int64)) % rm))), .second, .unset, .val (.long rm), .second, .unset, .unset] [])) _
      have hsz := own_size (a := p2) hrm.1 hrm.2.1
      obtain ⟨sz, esz⟩ : ∃ z : Int64, z = ((1 : Int64) + ((p2 &&& (9223372036854775807 : Int64)) % rm)) := ⟨_, rfl⟩
      rw [← esz] at hsz
      rw [← esz]
      have he1 := own_e1 hlo.1 hlo.2 hsz.1 (Int.le_trans hsz.2 hrm.2.1) (by have := hsz.2; have := hrm.2.2; omega)
      have hs1 := hsz.1
      show OwnGo p e below (T354.setTop (mkF m 70 #[.val (.long p1), .second, .val (.long p2), .second, .val (.long p3), .second, .val (.int p4), .val (.int (1 : Int32)), .val (.int (1 : Int32)), .val (.long lo), .second, .val (.long sz), .second, .unset, .val (.long rm), .second, .unset, .unset] [])) _
      obtain ⟨a355, T355, h355, k1355, t355, kb355, X355, e355, E355, hS355, hk355, hZ355, hown355, EX355, FC355, FV355, AV355, la355, lb355, CRl355, hLit355, sx355, st355⟩ := ldcCH X354 hx hZ hown (hw _ (List.mem_of_getElem? (i := 7) rfl)) (own_wS hw) hh354 hS0 hk0 hEL (List.mem_of_getElem? (i := 2) rfl) CR0.1 (vs := [(.int 116)]) (z := 1) ⟨by decide, by decide⟩ (by decide) (by decide) (g := (mkF m 70 #[.val (.long p1), .second, .val (.long p2), .second, .val (.long p3), .second, .val (.int p4), .val (.int (1 : Int32)), .val (.int (1 : Int32)), .val (.long lo), .second, .val (.long sz), .second, .unset, .val (.long rm), .second, .unset, .unset] [])) rfl (hb hby at_70) (n := 4) (Nat.le_of_ble_eq_true rfl) (by decide) (Nat.le_of_ble_eq_true rfl) (Nat.le_of_ble_eq_true rfl)
      have O356 := OL.ext E355
      have KP357 := KP0.ext E355
      have Zs358 := Nat.le_trans Z0 E355.1
      have CR359 := CR0.trans CRl355
      refine own_back st355 ?_
      show OwnGo p e below (T355.setTop (mkF m 72 #[.val (.long p1), .second, .val (.long p2), .second, .val (.long p3), .second, .val (.int p4), .val (.int (1 : Int32)), .val (.int (1 : Int32)), .val (.long lo), .second, .val (.long sz), .second, .unset, .val (.long rm), .second, .unset, .unset] [(.ref a355)])) _
      refine own_back (fun t k => XS.lload X355.here hx rfl (hb hby at_72) rfl k) ?_
      show OwnGo p e below (T355.setTop (mkF m 74 #[.val (.long p1), .second, .val (.long p2), .second, .val (.long p3), .second, .val (.int p4), .val (.int (1 : Int32)), .val (.int (1 : Int32)), .val (.long lo), .second, .val (.long sz), .second, .unset, .val (.long rm), .second, .unset, .unset] [(.long lo), (.ref a355)])) _
      refine own_back (fun t k => XS.lload X355.here hx rfl (hb hby at_74) rfl k) ?_
      show OwnGo p e below (T355.setTop (mkF m 76 #[.val (.long p1), .second, .val (.long p2), .second, .val (.long p3), .second, .val (.int p4), .val (.int (1 : Int32)), .val (.int (1 : Int32)), .val (.long lo), .second, .val (.long sz), .second, .unset, .val (.long rm), .second, .unset, .unset] [(.long lo), (.long lo), (.ref a355)])) _
      refine own_back (fun t k => XS.lload X355.here hx rfl (hb hby at_76) rfl k) ?_
      show OwnGo p e below (T355.setTop (mkF m 78 #[.val (.long p1), .second, .val (.long p2), .second, .val (.long p3), .second, .val (.int p4), .val (.int (1 : Int32)), .val (.int (1 : Int32)), .val (.long lo), .second, .val (.long sz), .second, .unset, .val (.long rm), .second, .unset, .unset] [(.long sz), (.long lo), (.long lo), (.ref a355)])) _
      refine own_back (fun t k => XS.ladd X355.here hx rfl (hb hby at_78) rfl k) ?_
      show OwnGo p e below (T355.setTop (mkF m 79 #[.val (.long p1), .second, .val (.long p2), .second, .val (.long p3), .second, .val (.int p4), .val (.int (1 : Int32)), .val (.int (1 : Int32)), .val (.long lo), .second, .val (.long sz), .second, .unset, .val (.long rm), .second, .unset, .unset] [(.long (lo + sz)), (.long lo), (.ref a355)])) _
      obtain ⟨_, _, ⟨T360, L360, k360, n360⟩, -, X360, hSn360, hgr360, ⟨Lc360, hQ360, l360, y360, z360, CRn360⟩, st360⟩ := callSS X355 hx (y := (⟨"com/example/sorted_set_patterns/sortedsetpatterns/Field", "earliestFirst", "(Ljava/lang/String;JJ)Lcom/example/sorted_set_patterns/sortedsetpatterns/Field;"⟩ : MethodName)) hown355 (mvT hZ355 (hw _ (List.mem_of_getElem? (i := 15) rfl))) (mvT hZ355 (hw _ (List.mem_of_getElem? (i := 16) rfl))) (mvT hZ355 (hw _ (List.mem_of_getElem? (i := 17) rfl))) (mvT hZ355 (hw _ (List.mem_of_getElem? (i := 18) rfl))) (by decide) (own_backH (W := 0) (rm_ef l Z a0 hw [] a355 116 lo (lo + sz) wo cz fm h355 n0 Zs358 O356 (⟨_, _, EX355, FC355, FV355, AV355, by decide⟩ : OwnStr Z h355 a355 [116]) EO SL SC hcz SO hfm he1.1 he1.2.1 he1.2.2.1 he1.2.2.2) hZ355 (hw _ (List.mem_of_getElem? (i := 18) rfl)) (hw _ (List.mem_of_getElem? (i := 17) rfl)) (by decide) (by decide) hEL CR359.1 sf0 all0) (g := (mkF m 79 #[.val (.long p1), .second, .val (.long p2), .second, .val (.long p3), .second, .val (.int p4), .val (.int (1 : Int32)), .val (.int (1 : Int32)), .val (.long lo), .second, .val (.long sz), .second, .unset, .val (.long rm), .second, .unset, .unset] [(.long (lo + sz)), (.long lo), (.ref a355)])) rfl (by rw [hml]; rfl) (argsL := [(.ref a355), (.long lo), (.long (lo + sz))]) (rest := []) (lenOf lw_pd3 rfl) rfl (by show 2 * 0 + _ ≤ _; exact Nat.le_of_eq rfl) (hb hby at_79) (fun _ _ => ⟨rfl, e355, Nat.le_of_ble_eq_true rfl, Nat.le_of_ble_eq_true rfl⟩)
      dsimp only [Pt.U, Pt.locs, Pt.cells, Pt.slots] at X360 l360 y360 z360 st360 hQ360 hSn360 hgr360 CRn360
      subst l360 y360 z360
      obtain ⟨Xr360, hSr360, hZr360, hownr360⟩ := rebS hS355 (own_hle e355 hk355) X360 hSn360 hgr360 hZ355 hown355
      obtain ⟨af360, rfl, N360q, E360, EX360, Fmin360, Fmax360, Ford360⟩ := hQ360
      refine own_seq st360 ?_
      have N360 := Fr.app N354 N360q
      have O361 := O356.ext E360
      have KP362 := KP357.ext E360
      have Zs363 := Nat.le_trans Zs358 E360.1
      have CR364 := CR359.trans CRn360
      have f365 := EX355.ext E360
      have f366 := FC355.ext E360
      have f367 := FV355.ext E360
      have f368 := AV355.ext E360
      show OwnGo p e below (T360.setTop (mkF m 82 #[.val (.long p1), .second, .val (.long p2), .second, .val (.long p3), .second, .val (.int p4), .val (.int (1 : Int32)), .val (.int (1 : Int32)), .val (.long lo), .second, .val (.long sz), .second, .unset, .val (.long rm), .second, .unset, .unset] [(.ref af360)])) _
      refine own_back (fun t k => XS.astore Xr360.here hx rfl (hb hby at_82) rfl rfl (l' := #[.val (.long p1), .second, .val (.long p2), .second, .val (.long p3), .second, .val (.int p4), .val (.int (1 : Int32)), .val (.int (1 : Int32)), .val (.long lo), .second, .val (.long sz), .second, .val (.ref af360), .val (.long rm), .second, .unset, .unset]) rfl k) ?_
      show OwnGo p e below (T360.setTop (mkF m 84 #[.val (.long p1), .second, .val (.long p2), .second, .val (.long p3), .second, .val (.int p4), .val (.int (1 : Int32)), .val (.int (1 : Int32)), .val (.long lo), .second, .val (.long sz), .second, .val (.ref af360), .val (.long rm), .second, .unset, .unset] [])) _
      refine own_back (fun t k => XS.iconst Xr360.here hx rfl (hb hby at_84) k) ?_
      show OwnGo p e below (T360.setTop (mkF m 85 #[.val (.long p1), .second, .val (.long p2), .second, .val (.long p3), .second, .val (.int p4), .val (.int (1 : Int32)), .val (.int (1 : Int32)), .val (.long lo), .second, .val (.long sz), .second, .val (.ref af360), .val (.long rm), .second, .unset, .unset] [(.int (0 : Int32))])) _
      refine own_back (fun t k => XS.istore Xr360.here hx rfl (hb hby at_85) rfl (l' := #[.val (.long p1), .second, .val (.long p2), .second, .val (.long p3), .second, .val (.int p4), .val (.int (0 : Int32)), .val (.int (1 : Int32)), .val (.long lo), .second, .val (.long sz), .second, .val (.ref af360), .val (.long rm), .second, .unset, .unset]) rfl k) ?_
      show OwnGo p e below (T360.setTop (mkF m 87 #[.val (.long p1), .second, .val (.long p2), .second, .val (.long p3), .second, .val (.int p4), .val (.int (0 : Int32)), .val (.int (1 : Int32)), .val (.long lo), .second, .val (.long sz), .second, .val (.ref af360), .val (.long rm), .second, .unset, .unset] [])) _
      refine own_back (fun t k => XS.goto Xr360.here hx rfl (pc0 := 87) (pc' := 131) rfl (hb hby at_87) (by decide) (by decide) k) ?_
      show OwnGo p e below (T360.setTop (mkF m 131 #[.val (.long p1), .second, .val (.long p2), .second, .val (.long p3), .second, .val (.int p4), .val (.int (0 : Int32)), .val (.int (1 : Int32)), .val (.long lo), .second, .val (.long sz), .second, .val (.ref af360), .val (.long rm), .second, .unset, .unset] [])) _
      refine own_back (fun t k => XS.lload Xr360.here hx rfl (hb hby at_131) rfl k) ?_
      show OwnGo p e below (T360.setTop (mkF m 133 #[.val (.long p1), .second, .val (.long p2), .second, .val (.long p3), .second, .val (.int p4), .val (.int (0 : Int32)), .val (.int (1 : Int32)), .val (.long lo), .second, .val (.long sz), .second, .val (.ref af360), .val (.long rm), .second, .unset, .unset] [(.long p3)])) _
      refine own_back (fun t k => Xr360.ldc2Long hx hownr360 (mvT hZr360 (hw _ (List.mem_of_getElem? (i := 6) rfl))) (g := (mkF m 133 #[.val (.long p1), .second, .val (.long p2), .second, .val (.long p3), .second, .val (.int p4), .val (.int (0 : Int32)), .val (.int (1 : Int32)), .val (.long lo), .second, .val (.long sz), .second, .val (.ref af360), .val (.long rm), .second, .unset, .unset] [(.long p3)])) rfl (hb hby at_133) t k) ?_
      show OwnGo p e below (T360.setTop (mkF m 136 #[.val (.long p1), .second, .val (.long p2), .second, .val (.long p3), .second, .val (.int p4), .val (.int (0 : Int32)), .val (.int (1 : Int32)), .val (.long lo), .second, .val (.long sz), .second, .val (.ref af360), .val (.long rm), .second, .unset, .unset] [(.long (9223372036854775807 : Int64)), (.long p3)])) _
      refine own_back (fun t k => XS.land Xr360.here hx rfl (hb hby at_136) rfl k) ?_
      show OwnGo p e below (T360.setTop (mkF m 137 #[.val (.long p1), .second, .val (.long p2), .second, .val (.long p3), .second, .val (.int p4), .val (.int (0 : Int32)), .val (.int (1 : Int32)), .val (.long lo), .second, .val (.long sz), .second, .val (.ref af360), .val (.long rm), .second, .unset, .unset] [(.long (p3 &&& (9223372036854775807 : Int64)))])) _
      refine own_back (fun t k => XS.lload Xr360.here hx rfl (hb hby at_137) rfl k) ?_
      show OwnGo p e below (T360.setTop (mkF m 139 #[.val (.long p1), .second, .val (.long p2), .second, .val (.long p3), .second, .val (.int p4), .val (.int (0 : Int32)), .val (.int (1 : Int32)), .val (.long lo), .second, .val (.long sz), .second, .val (.ref af360), .val (.long rm), .second, .unset, .unset] [(.long sz), (.long (p3 &&& (9223372036854775807 : Int64)))])) _
      refine own_back (fun t k => own_lrem Xr360 hx rfl (hb hby at_139) rfl (own_nz hs1) k) ?_
      show OwnGo p e below (T360.setTop (mkF m 140 #[.val (.long p1), .second, .val (.long p2), .second, .val (.long p3), .second, .val (.int p4), .val (.int (0 : Int32)), .val (.int (1 : Int32)), .val (.long lo), .second, .val (.long sz), .second, .val (.ref af360), .val (.long rm), .second, .unset, .unset] [(.long ((p3 &&& (9223372036854775807 : Int64)) % sz))])) _
      refine own_back (fun t k => XS.lstore Xr360.here hx rfl (hb hby at_140) rfl (l' := #[.val (.long p1), .second, .val (.long p2), .second, .val (.long p3), .second, .val (.int p4), .val (.int (0 : Int32)), .val (.int (1 : Int32)), .val (.long lo), .second, .val (.long sz), .second, .val (.ref af360), .val (.long ((p3 &&& (9223372036854775807 : Int64)) % sz)), .second, .unset, .unset]) rfl k) ?_
      show OwnGo p e below (T360.setTop (mkF m 142 #[.val (.long p1), .second, .val (.long p2), .second, .val (.long p3), .second, .val (.int p4), .val (.int (0 : Int32)), .val (.int (1 : Int32)), .val (.long lo), .second, .val (.long sz), .second, .val (.ref af360), .val (.long ((p3 &&& (9223372036854775807 : Int64)) % sz)), .second, .unset, .unset] [])) _
      obtain ⟨ix, eix⟩ : ∃ z : Int64, z = ((p3 &&& (9223372036854775807 : Int64)) % sz) := ⟨_, rfl⟩
      rw [← eix]
      show OwnGo p e below (T360.setTop (mkF m 142 #[.val (.long p1), .second, .val (.long p2), .second, .val (.long p3), .second, .val (.int p4), .val (.int (0 : Int32)), .val (.int (1 : Int32)), .val (.long lo), .second, .val (.long sz), .second, .val (.ref af360), .val (.long ix), .second, .unset, .unset] [])) _
      refine own_back (fun t k => XS.iload Xr360.here hx rfl (hb hby at_142) rfl k) ?_
      show OwnGo p e below (T360.setTop (mkF m 144 #[.val (.long p1), .second, .val (.long p2), .second, .val (.long p3), .second, .val (.int p4), .val (.int (0 : Int32)), .val (.int (1 : Int32)), .val (.long lo), .second, .val (.long sz), .second, .val (.ref af360), .val (.long ix), .second, .unset, .unset] [(.int (0 : Int32))])) _
      refine own_back (fun t k => XS.ifYes Xr360.here hx rfl (pc0 := 144) (pc' := 152) rfl (hb hby at_144) rfl (Jvm.Free.XT.i0_eq_t (by decide)) (by decide) (by decide) k) ?_
      show OwnGo p e below (T360.setTop (mkF m 152 #[.val (.long p1), .second, .val (.long p2), .second, .val (.long p3), .second, .val (.int p4), .val (.int (0 : Int32)), .val (.int (1 : Int32)), .val (.long lo), .second, .val (.long sz), .second, .val (.ref af360), .val (.long ix), .second, .unset, .unset] [])) _
      refine own_back (fun t k => XS.lload Xr360.here hx rfl (hb hby at_152) rfl k) ?_
      show OwnGo p e below (T360.setTop (mkF m 154 #[.val (.long p1), .second, .val (.long p2), .second, .val (.long p3), .second, .val (.int p4), .val (.int (0 : Int32)), .val (.int (1 : Int32)), .val (.long lo), .second, .val (.long sz), .second, .val (.ref af360), .val (.long ix), .second, .unset, .unset] [(.long sz)])) _
      refine own_back (fun t k => XS.lconst Xr360.here hx rfl (hb hby at_154) k) ?_
      show OwnGo p e below (T360.setTop (mkF m 155 #[.val (.long p1), .second, .val (.long p2), .second, .val (.long p3), .second, .val (.int p4), .val (.int (0 : Int32)), .val (.int (1 : Int32)), .val (.long lo), .second, .val (.long sz), .second, .val (.ref af360), .val (.long ix), .second, .unset, .unset] [(.long (1 : Int64)), (.long sz)])) _
      refine own_back (fun t k => XS.lsub Xr360.here hx rfl (hb hby at_155) rfl k) ?_
      show OwnGo p e below (T360.setTop (mkF m 156 #[.val (.long p1), .second, .val (.long p2), .second, .val (.long p3), .second, .val (.int p4), .val (.int (0 : Int32)), .val (.int (1 : Int32)), .val (.long lo), .second, .val (.long sz), .second, .val (.ref af360), .val (.long ix), .second, .unset, .unset] [(.long (sz - (1 : Int64)))])) _
      refine own_back (fun t k => XS.lload Xr360.here hx rfl (hb hby at_156) rfl k) ?_
      show OwnGo p e below (T360.setTop (mkF m 158 #[.val (.long p1), .second, .val (.long p2), .second, .val (.long p3), .second, .val (.int p4), .val (.int (0 : Int32)), .val (.int (1 : Int32)), .val (.long lo), .second, .val (.long sz), .second, .val (.ref af360), .val (.long ix), .second, .unset, .unset] [(.long ix), (.long (sz - (1 : Int64)))])) _
      refine own_back (fun t k => XS.lsub Xr360.here hx rfl (hb hby at_158) rfl k) ?_
      show OwnGo p e below (T360.setTop (mkF m 159 #[.val (.long p1), .second, .val (.long p2), .second, .val (.long p3), .second, .val (.int p4), .val (.int (0 : Int32)), .val (.int (1 : Int32)), .val (.long lo), .second, .val (.long sz), .second, .val (.ref af360), .val (.long ix), .second, .unset, .unset] [(.long ((sz - (1 : Int64)) - ix))])) _
      refine own_back (fun t k => XS.lstore Xr360.here hx rfl (hb hby at_159) rfl (l' := #[.val (.long p1), .second, .val (.long p2), .second, .val (.long p3), .second, .val (.int p4), .val (.int (0 : Int32)), .val (.int (1 : Int32)), .val (.long lo), .second, .val (.long sz), .second, .val (.ref af360), .val (.long ix), .second, .val (.long ((sz - (1 : Int64)) - ix)), .second]) rfl k) ?_
      show OwnGo p e below (T360.setTop (mkF m 161 #[.val (.long p1), .second, .val (.long p2), .second, .val (.long p3), .second, .val (.int p4), .val (.int (0 : Int32)), .val (.int (1 : Int32)), .val (.long lo), .second, .val (.long sz), .second, .val (.ref af360), .val (.long ix), .second, .val (.long ((sz - (1 : Int64)) - ix)), .second] [])) _
      refine own_back (fun t k => XS.aload Xr360.here hx rfl (hb hby at_161) rfl rfl k) ?_
      show OwnGo p e below (T360.setTop (mkF m 163 #[.val (.long p1), .second, .val (.long p2), .second, .val (.long p3), .second, .val (.int p4), .val (.int (0 : Int32)), .val (.int (1 : Int32)), .val (.long lo), .second, .val (.long sz), .second, .val (.ref af360), .val (.long ix), .second, .val (.long ((sz - (1 : Int64)) - ix)), .second] [(.ref af360)])) _
      refine own_back (fun t k => XS.lload Xr360.here hx rfl (hb hby at_163) rfl k) ?_
      show OwnGo p e below (T360.setTop (mkF m 165 #[.val (.long p1), .second, .val (.long p2), .second, .val (.long p3), .second, .val (.int p4), .val (.int (0 : Int32)), .val (.int (1 : Int32)), .val (.long lo), .second, .val (.long sz), .second, .val (.ref af360), .val (.long ix), .second, .val (.long ((sz - (1 : Int64)) - ix)), .second] [(.long lo), (.ref af360)])) _
      refine own_back (fun t k => XS.lload Xr360.here hx rfl (hb hby at_165) rfl k) ?_
      show OwnGo p e below (T360.setTop (mkF m 167 #[.val (.long p1), .second, .val (.long p2), .second, .val (.long p3), .second, .val (.int p4), .val (.int (0 : Int32)), .val (.int (1 : Int32)), .val (.long lo), .second, .val (.long sz), .second, .val (.ref af360), .val (.long ix), .second, .val (.long ((sz - (1 : Int64)) - ix)), .second] [(.long ix), (.long lo), (.ref af360)])) _
      refine own_back (fun t k => XS.ladd Xr360.here hx rfl (hb hby at_167) rfl k) ?_
      show OwnGo p e below (T360.setTop (mkF m 168 #[.val (.long p1), .second, .val (.long p2), .second, .val (.long p3), .second, .val (.int p4), .val (.int (0 : Int32)), .val (.int (1 : Int32)), .val (.long lo), .second, .val (.long sz), .second, .val (.ref af360), .val (.long ix), .second, .val (.long ((sz - (1 : Int64)) - ix)), .second] [(.long (lo + ix)), (.ref af360)])) _
      obtain ⟨cq369, kq369, q369a, q369b, q369c⟩ := isOf hZr360 rfl EX360
      obtain ⟨_, _, ⟨T369, L369, k369, n369⟩, -, X369, ⟨Lc369, hQ369, l369, y369, z369⟩, st369⟩ := Xr360.virtualBack hx (y := (⟨"com/example/sorted_set_patterns/sortedsetpatterns/Field", "digit", "(J)J"⟩ : MethodName)) (z := (⟨"com/example/sorted_set_patterns/sortedsetpatterns/Field", "digit", "(J)J"⟩ : MethodName)) hownr360 (mvT hZr360 (hw _ (List.mem_of_getElem? (i := 92) rfl))) (mvT hZr360 (hw _ (List.mem_of_getElem? (i := 93) rfl))) (notFace_of_selects (args := #[]) (mvT hZr360 (hw _ (List.mem_of_getElem? (i := 95) rfl)))) (mvT hZr360 (hw _ (List.mem_of_getElem? (i := 95) rfl))) (mvT hZr360 (hw _ (List.mem_of_getElem? (i := 94) rfl))) (by decide) (own_backN (W := 0) (rm_dg l Z a0 hw [] af360 (lo + ix) lo ((lo + sz) - (1 : Int64)) wo wh T360.heap n0 Zs363 O361 Fmin360 Fmax360 Ford360 SH) hZr360 (hw _ (List.mem_of_getElem? (i := 96) rfl)) (hw _ (List.mem_of_getElem? (i := 17) rfl)) (by decide) (by decide)) q369a q369c (g := (mkF m 168 #[.val (.long p1), .second, .val (.long p2), .second, .val (.long p3), .second, .val (.int p4), .val (.int (0 : Int32)), .val (.int (1 : Int32)), .val (.long lo), .second, .val (.long sz), .second, .val (.ref af360), .val (.long ix), .second, .val (.long ((sz - (1 : Int64)) - ix)), .second] [(.long (lo + ix)), (.ref af360)])) rfl (by rw [hml]; rfl) (Steps.refl _) (argsL := [(.long (lo + ix))]) (rest := []) (lenOf lw_pd1 rfl) rfl (by show 2 * 0 + _ ≤ _; exact Nat.le_of_eq rfl) (hb hby at_168) (fun _ _ => ⟨rfl, rfl, Nat.le_of_ble_eq_true rfl, Nat.le_of_ble_eq_true rfl⟩)
      dsimp only [Pt.U, Pt.locs, Pt.cells, Pt.slots] at X369 l369 y369 z369 st369 hQ369
      subst l369 y369 z369
      rw [if_neg hne, own_fin1 lo sz ix] at hQ369
      obtain ⟨rfl, N369q, hh369⟩ := hQ369
      refine own_seq st369 ?_
      have N369 := Fr.app N360 N369q
      show OwnGo p e below (T369.setTop (mkF m 171 #[.val (.long p1), .second, .val (.long p2), .second, .val (.long p3), .second, .val (.int p4), .val (.int (0 : Int32)), .val (.int (1 : Int32)), .val (.long lo), .second, .val (.long sz), .second, .val (.ref af360), .val (.long ix), .second, .val (.long ((sz - (1 : Int64)) - ix)), .second] [(.long ((sz - (1 : Int64)) - ix))])) _
      refine own_back (fun t k => XS.lload X369.here hx rfl (hb hby at_171) rfl k) ?_
      show OwnGo p e below (T369.setTop (mkF m 173 #[.val (.long p1), .second, .val (.long p2), .second, .val (.long p3), .second, .val (.int p4), .val (.int (0 : Int32)), .val (.int (1 : Int32)), .val (.long lo), .second, .val (.long sz), .second, .val (.ref af360), .val (.long ix), .second, .val (.long ((sz - (1 : Int64)) - ix)), .second] [(.long ((sz - (1 : Int64)) - ix)), (.long ((sz - (1 : Int64)) - ix))])) _
      refine own_back (fun t k => XT.lcmp X369.here hx rfl (hb hby at_173) rfl k) ?_
      show OwnGo p e below (T369.setTop (mkF m 174 #[.val (.long p1), .second, .val (.long p2), .second, .val (.long p3), .second, .val (.int p4), .val (.int (0 : Int32)), .val (.int (1 : Int32)), .val (.long lo), .second, .val (.long sz), .second, .val (.ref af360), .val (.long ix), .second, .val (.long ((sz - (1 : Int64)) - ix)), .second] [(.int (XT.cmpL ((sz - (1 : Int64)) - ix) ((sz - (1 : Int64)) - ix)))])) _
      refine own_back (fun t k => XS.ifNo X369.here hx rfl (hb hby at_174) rfl (Jvm.Free.XT.ll_ne_f rfl) k) ?_
      show OwnGo p e below (T369.setTop (mkF m 177 #[.val (.long p1), .second, .val (.long p2), .second, .val (.long p3), .second, .val (.int p4), .val (.int (0 : Int32)), .val (.int (1 : Int32)), .val (.long lo), .second, .val (.long sz), .second, .val (.ref af360), .val (.long ix), .second, .val (.long ((sz - (1 : Int64)) - ix)), .second] [])) _
      refine own_back (fun t k => XS.iconst X369.here hx rfl (hb hby at_177) k) ?_
      show OwnGo p e below (T369.setTop (mkF m 178 #[.val (.long p1), .second, .val (.long p2), .second, .val (.long p3), .second, .val (.int p4), .val (.int (0 : Int32)), .val (.int (1 : Int32)), .val (.long lo), .second, .val (.long sz), .second, .val (.ref af360), .val (.long ix), .second, .val (.long ((sz - (1 : Int64)) - ix)), .second] [(.int (1 : Int32))])) _
      refine own_back (fun t k => XS.goto X369.here hx rfl (pc0 := 178) (pc' := 182) rfl (hb hby at_178) (by decide) (by decide) k) ?_
      show OwnGo p e below (T369.setTop (mkF m 182 #[.val (.long p1), .second, .val (.long p2), .second, .val (.long p3), .second, .val (.int p4), .val (.int (0 : Int32)), .val (.int (1 : Int32)), .val (.long lo), .second, .val (.long sz), .second, .val (.ref af360), .val (.long ix), .second, .val (.long ((sz - (1 : Int64)) - ix)), .second] [(.int (1 : Int32))])) _
      refine own_retNW X369 hx Bd.notSynchronized (t := .boolean) (z := (1 : Int32)) Bd.returns (by simp) rfl hSr360 (Nat.le_refl _) hZr360 hEL (hh ▸ CR364) (hb hby at_182) hh369 (Nat.le_of_ble_eq_true rfl) (Nat.le_of_ble_eq_true rfl) ?_
      exact ⟨rfl, N369⟩
set_option maxRecDepth 65536 in
set_option maxHeartbeats 40000000 in
theorem comes_1 {Post : Tables → Env → Array Value → State → Outcome → State → Prop} (hpost : ∀ tb e args s v u, (limb_1_1.after args s (.returned v) u = true ∧ limb_1_2.after args s (.returned v) u = true ∧ True) → ReturnedEndW s (.returned v) u (Jvm.fieldLocs frame_1_writes args s ++ Jvm.arrayLocs frame_1_arrays args s ++ Jvm.staticLocs frame_1_statics s) 24 4224 → Post tb e args s (.returned v) u) :
    ArmFor flags0 classFile x code maxLocals ret World_1 tables_1 room_1 Calls_1 rest_1 Pre_1 Post := by
  intro l hfl _ _ p e ha hc hk s m args below hf hA hF happ hP
  obtain ⟨hcalls, hrest, hpre⟩ := hP
  obtain ⟨-, -, -, hnamed, -, -, -, hat⟩ := (Spec.applies_iff hf).mp happ
  obtain ⟨hg, hn⟩ := and_e (Cond.before_iff.mp (show (Jvm.Cond.and given_1 narrow_1).before args s = true from hpre))
  obtain ⟨g1, g2⟩ := and_e hg
  obtain ⟨g3, g4⟩ := and_e g2
  obtain ⟨g5, g6⟩ := and_e g4
  obtain ⟨g7, g8⟩ := and_e g6
  obtain ⟨g9, g10⟩ := and_e hn
  obtain ⟨g11, g12⟩ := and_e g10
  obtain ⟨g13, g14⟩ := and_e g12
  obtain ⟨w0, w1, w2, w3, rfl⟩ : ∃ w0 w1 w2 w3 : Value, args = #[w0, w1, w2, w3] := by
    have hs : args.size = 4 := by simpa [Cond.value, given_1] using g1
    obtain ⟨L⟩ := args
    match L, hs with
    | [w0, w1, w2, w3], _ => exact ⟨w0, w1, w2, w3, rfl⟩
  have hw := fun d (hd : d ∈ tables_1) => atoms_spec (ws := Jvm.Cond.code x code maxLocals ret :: tables_1) hat d (List.mem_cons_of_mem _ hd)
  have hfit : Fit s := fun {y c} hc i hi => by
    obtain ⟨ha, rfl⟩ := Array.getElem?_eq_some_iff.mp hc
    have q := List.all_eq_true.mp ((Array.all_eq_true_iff_forall_mem.mp hF) _ (Array.getElem_mem ha)) i (List.mem_range.mpr hi)
    simpa [Array.getElem?_eq_getElem hi] using q
  obtain ⟨hsets, hown0⟩ := atoms_of _ (rest_1_c_eq ▸ (show rest_1_c.before _ s = true from hrest))
  have hr0 := Cond.before_iff.mp hown0
  obtain ⟨i0, ei0⟩ := isL_v g3
  obtain rfl : w0 = (.long i0) := Option.some.inj ei0
  obtain ⟨i1, ei1⟩ := isL_v g5
  obtain rfl : w1 = (.long i1) := Option.some.inj ei1
  obtain ⟨i2, ei2⟩ := isL_v g7
  obtain rfl : w2 = (.long i2) := Option.some.inj ei2
  obtain ⟨i3, ei3⟩ := is_v g8
  obtain rfl : w3 = (.int i3) := Option.some.inj ei3
  obtain ⟨wLOWER_FIRST, vLOWER_FIRST⟩ := exa_v g9
  have SLOWER_FIRST : Sta s s.heap "com/example/sorted_set_patterns/sortedsetpatterns/Field$Order" "LOWER_FIRST" "Lcom/example/sorted_set_patterns/sortedsetpatterns/Field$Order;" (.ref wLOWER_FIRST) := Sta.start vLOWER_FIRST (Or.inr ⟨(hw _ (List.mem_of_getElem? (i := 24) rfl)), (hw _ (List.mem_of_getElem? (i := 25) rfl))⟩)
  have ELOWER_FIRST : Exa s s.heap wLOWER_FIRST "com/example/sorted_set_patterns/sortedsetpatterns/Field$Order" := Exa.start vLOWER_FIRST g9
  have FLOWER_FIRST : Fld s s.heap wLOWER_FIRST "java/lang/Enum" "ordinal" "I" (.int 1) := Fld.start ((fld_at vLOWER_FIRST).symm.trans (own_eqint g13))
  obtain ⟨wHIGHER_FIRST, vHIGHER_FIRST⟩ := exa_v g11
  have SHIGHER_FIRST : Sta s s.heap "com/example/sorted_set_patterns/sortedsetpatterns/Field$Order" "HIGHER_FIRST" "Lcom/example/sorted_set_patterns/sortedsetpatterns/Field$Order;" (.ref wHIGHER_FIRST) := Sta.start vHIGHER_FIRST (Or.inr ⟨(hw _ (List.mem_of_getElem? (i := 24) rfl)), (hw _ (List.mem_of_getElem? (i := 98) rfl))⟩)
  have EHIGHER_FIRST : Exa s s.heap wHIGHER_FIRST "com/example/sorted_set_patterns/sortedsetpatterns/Field$Order" := Exa.start vHIGHER_FIRST g11
  have FHIGHER_FIRST : Fld s s.heap wHIGHER_FIRST "java/lang/Enum" "ordinal" "I" (.int 0) := Fld.start ((fld_at vHIGHER_FIRST).symm.trans (own_eqint g14))
  obtain ⟨cz, ecz⟩ := is_v (Cond.before_iff.mp (hsets _ (List.mem_of_getElem? (i := 1) rfl)))
  have SC : Sta s s.heap "java/lang/String" "COMPACT_STRINGS" "Z" (.int cz) := Sta.start ecz (Or.inl (hsets _ (List.mem_of_getElem? (i := 0) rfl)))
  have ncz := not_v (Cond.before_iff.mp (hsets _ (List.mem_of_getElem? (i := 2) rfl)))
  have hcz : ¬ (cz = (0 : Int32)) := gotF (Cond.eq_ints ecz (Term.int_eval (0))) ncz
  obtain ⟨fm, efm, hfm⟩ := isR_v (Cond.before_iff.mp (hsets _ (List.mem_of_getElem? (i := 8) rfl)))
  have SO : Sta s s.heap "jdk/internal/util/Preconditions" "SIOOBE_FORMATTER" "Ljava/util/function/BiFunction;" fm := Sta.start efm (Or.inl (hsets _ (List.mem_of_getElem? (i := 7) rfl)))
  have hCH : CHv s own_EL s.vm s.heap := CHv.start (own_EW hw) (fun p hp => hcalls.1 p hp) (hsets _ (List.mem_of_getElem? (i := 2) rfl)) (hw _ (List.mem_of_getElem? (i := 10) rfl)) (hw _ (List.mem_of_getElem? (i := 9) rfl))
  obtain ⟨n, o, h1, h2, h3, _, L, rfl, ⟨rfl, N⟩, -, hq⟩ := rm_law l s _ hw tables_1 i0 i1 i2 i3 wLOWER_FIRST wHIGHER_FIRST cz fm s.heap s.heap.size (Nat.le_refl _) (Old.start s) ELOWER_FIRST EHIGHER_FIRST SLOWER_FIRST SHIGHER_FIRST (Fld.ne FLOWER_FIRST FHIGHER_FIRST (by decide)) SC hcz SO hfm p e ha hc hk s m _ below hf ((Spec.applies_iff_loose hf).mp happ).1 ⟨rfl, State.Warmed39.refl s, rfl, hCH, fun _ q => nomatch q⟩ trivial
  refine ⟨n, _, h1, h2, h3, hpost _ _ _ _ _ _ ⟨Cond.after_iff.mpr rfl, Cond.after_iff.mpr (eq_i res_at (Term.int_eval (1)) rfl), trivial⟩ ⟨hq.1, hq.2.1, hq.2.2.1, (hq.2.2.2.sift fun y hy => Or.inr (N y hy)).mono (by decide) (by decide)⟩⟩
theorem main_1_1 : Claimed_1_1 := comes_1 fun _ _ _ _ _ _ h hF => ⟨h.1, hF⟩
theorem main_1_2 : Claimed_1_2 := comes_1 fun _ _ _ _ _ _ h hF => ⟨h.2.1, hF⟩
end Jvm.Pilot.@@N@@
namespace Jvm.Pilot.@@N@@
open Jvm Jvm.ClassFile Sem Op Lib Jvm.Free Jvm.Stand Jvm.Pilot.@@N@@.Jvm.D
/-! MADE BY PROGRAM (witnessworld.py) out of the Statement's table words and the real class files: 23 classes; the members and pool entries that the words name. The judged class is class 1, her method 1. -/
namespace start1
open Jvm.ClassFile
def u (s : String) : CpInfo := .utf8 (stringToUtf16 s)
/-- a pool by its gaps: so many unusable entries, then the entry; so many at the end -/
def gap : Nat → List CpInfo → List CpInfo
  | 0, r => r
  | n + 1, r => .unusable :: gap n r
def poolList (es : List (Nat × CpInfo)) (last : Nat) : List CpInfo := es.foldr (fun e r => gap e.1 (e.2 :: r)) (gap last [])
def pool (es : List (Nat × CpInfo)) (last : Nat) : Array CpInfo := ⟨poolList es last⟩
def fileOf (pool : Array CpInfo) (this : Nat) (attrs : Array Attribute := #[]) (ms : Array MethodInfo := #[]) (fl : Nat := 33) (sup : Nat := 0) (ifs : Array Nat := #[]) (fds : Array FieldInfo := #[]) : ClassFile where
  minorVersion := 0
  majorVersion := 65
  constantPool := pool
  accessFlags := fl
  thisClass := this
  superClass := sup
  interfaces := ifs
  fields := fds
  methods := ms
  attributes := attrs
def plain (name : String) (sup : Option ClassId) : Class where
  name := name
  kind := .ordinary
  loader := none
  accessFlags := 33
  super := sup
  interfaces := #[]
  cf := none
  fields := #[]
  methods := #[]
  instanceTypes := #[]
  staticTypes := #[]
  resolved := #[]
  callSites := []
  init := .initialized
  statics := none
  mirror := none

def pool0 : Array CpInfo := pool [(5, u "<init>"), (0, u "()V"), (1, .class_ 10), (1, u "java/lang/Object")] 113

def k0c0 : Code := { maxStack := 0, maxLocals := 1, code := object_method_1_code, exceptionTable := #[], attributes := #[] }
def k0m0 : Method := { name := "<init>", desc := "()V", sig := { parameters := [], returnType := none }, accessFlags := 1, code := some k0c0 }
/-- java/lang/Object -/
def k0 : Class := { plain "java/lang/Object" none with
  accessFlags := 33
  interfaces := #[]
  cf := some (fileOf pool0 8 #[] #[{ accessFlags := 1, nameIndex := 5, descriptorIndex := 6, attributes := #[] }] 33 0 #[] #[])
  fields := #[]
  methods := #[k0m0]
  instanceTypes := #[]
  staticTypes := #[]
  resolved := Array.replicate 124 none
  statics := none }

def pool1 : Array CpInfo := pool [(2, .class_ 4), (1, u "java/lang/Object"), (0, u "<init>"), (0, u "()V"), (0, .long 18014398509481983), (1, .long 9007199254740992), (1, .methodref 12 13), (0, .class_ 14), (0, .nameAndType 15 16), (0, u "java/lang/Math"), (0, u "min"), (0, u "(JJ)J"), (0, .long 9223372036854775807), (1, .string 20), (0, u "t"), (0, .methodref 22 23), (0, .class_ 24), (0, .nameAndType 25 26), (0, u "com/example/sorted_set_patterns/sortedsetpatterns/Field"), (0, u "earliestFirst"), (0, u "(Ljava/lang/String;JJ)Lcom/example/sorted_set_patterns/sortedsetpatterns/Field;"), (0, .long 9007199254740991), (1, .string 30), (0, u "c"), (0, .fieldref 32 33), (0, .class_ 34), (0, .nameAndType 35 36), (0, u "com/example/sorted_set_patterns/sortedsetpatterns/Field$Order"), (0, u "HIGHER_FIRST"), (0, u "Lcom/example/sorted_set_patterns/sortedsetpatterns/Field$Order;"), (0, .fieldref 32 38), (0, .nameAndType 39 36), (0, u "LOWER_FIRST"), (0, .methodref 22 41), (0, .nameAndType 5 42), (0, u "(Ljava/lang/String;JLcom/example/sorted_set_patterns/sortedsetpatterns/Field$Order;)V"), (0, .methodref 22 44), (0, .nameAndType 45 46), (0, u "digit"), (0, u "(J)J"), (0, .class_ 48), (0, u "com/example/sorted_set_patterns/sortedsetpatterns/FieldDigitPinLaw"), (2, u "law"), (0, u "(JJJI)Z")] 7

def k1m0 : Method := { name := "<init>", desc := "()V", sig := { parameters := [], returnType := none }, accessFlags := 1, code := none }
def k1c1 : Code := { maxStack := 7, maxLocals := 18, code := code, exceptionTable := #[], attributes := #[] }
def k1m1 : Method := { name := "law", desc := "(JJJI)Z", sig := { parameters := [.long, .long, .long, .int], returnType := some .boolean }, accessFlags := 9, code := some k1c1 }
/-- com/example/sorted_set_patterns/sortedsetpatterns/FieldDigitPinLaw -/
def k1 : Class := { plain "com/example/sorted_set_patterns/sortedsetpatterns/FieldDigitPinLaw" (some 0) with
  accessFlags := 49
  interfaces := #[]
  cf := some (fileOf pool1 47 #[] #[{ accessFlags := 1, nameIndex := 5, descriptorIndex := 6, attributes := #[] }, { accessFlags := 9, nameIndex := 51, descriptorIndex := 52, attributes := #[] }] 49 2 #[] #[])
  fields := #[]
  methods := #[k1m0, k1m1]
  instanceTypes := #[]
  staticTypes := #[]
  resolved := Array.replicate 60 none
  statics := none }

def pool2 : Array CpInfo := pool [(1, .class_ 2), (0, u "java/lang/Math"), (1, .class_ 6), (1, u "java/lang/Object"), (0, u "<init>"), (0, u "()V"), (89, .class_ 100), (1, u "java/lang/Math$RandomNumberGeneratorHolder"), (20, u "(JJ)J"), (50, u "negativeZeroFloatBits"), (0, u "J"), (2, u "negativeZeroDoubleBits"), (24, u "min"), (43, u "$assertionsDisabled"), (0, u "Z"), (91, u "twoToTheDoubleScaleDown"), (0, u "D"), (4, u "twoToTheDoubleScaleUp"), (9, u "E"), (3, u "PI"), (2, u "TAU"), (2, u "DEGREES_TO_RADIANS"), (0, u "RADIANS_TO_DEGREES")] 94

def k2m0 : Method := { name := "<init>", desc := "()V", sig := { parameters := [], returnType := none }, accessFlags := 2, code := none }
def k2c1 : Code := { maxStack := 4, maxLocals := 4, code := jdk_29_method_70_code, exceptionTable := #[], attributes := #[] }
def k2m1 : Method := { name := "min", desc := "(JJ)J", sig := { parameters := [.long, .long], returnType := some .long }, accessFlags := 9, code := some k2c1 }
/-- java/lang/Math -/
def k2 : Class := { plain "java/lang/Math" (some 0) with
  accessFlags := 49
  interfaces := #[]
  cf := some (fileOf pool2 1 #[.nestMembers #[98]] #[{ accessFlags := 2, nameIndex := 7, descriptorIndex := 8, attributes := #[] }, { accessFlags := 9, nameIndex := 201, descriptorIndex := 121, attributes := #[] }] 49 4 #[] #[{ accessFlags := 25, nameIndex := 354, descriptorIndex := 339, attributes := #[] }, { accessFlags := 25, nameIndex := 358, descriptorIndex := 339, attributes := #[] }, { accessFlags := 25, nameIndex := 361, descriptorIndex := 339, attributes := #[] }, { accessFlags := 26, nameIndex := 364, descriptorIndex := 339, attributes := #[] }, { accessFlags := 26, nameIndex := 365, descriptorIndex := 339, attributes := #[] }, { accessFlags := 26, nameIndex := 172, descriptorIndex := 173, attributes := #[] }, { accessFlags := 26, nameIndex := 176, descriptorIndex := 173, attributes := #[] }, { accessFlags := 8, nameIndex := 344, descriptorIndex := 339, attributes := #[] }, { accessFlags := 8, nameIndex := 338, descriptorIndex := 339, attributes := #[] }, { accessFlags := 4120, nameIndex := 245, descriptorIndex := 246, attributes := #[] }])
  fields := #[{ name := "E", type := .double, accessFlags := 25, slot := 0, constantValue := 0 }, { name := "PI", type := .double, accessFlags := 25, slot := 1, constantValue := 0 }, { name := "TAU", type := .double, accessFlags := 25, slot := 2, constantValue := 0 }, { name := "DEGREES_TO_RADIANS", type := .double, accessFlags := 26, slot := 3, constantValue := 0 }, { name := "RADIANS_TO_DEGREES", type := .double, accessFlags := 26, slot := 4, constantValue := 0 }, { name := "negativeZeroFloatBits", type := .long, accessFlags := 26, slot := 5, constantValue := 0 }, { name := "negativeZeroDoubleBits", type := .long, accessFlags := 26, slot := 6, constantValue := 0 }, { name := "twoToTheDoubleScaleUp", type := .double, accessFlags := 8, slot := 7, constantValue := 0 }, { name := "twoToTheDoubleScaleDown", type := .double, accessFlags := 8, slot := 8, constantValue := 0 }, { name := "$assertionsDisabled", type := .boolean, accessFlags := 4120, slot := 9, constantValue := 0 }]
  methods := #[k2m0, k2m1]
  instanceTypes := #[]
  staticTypes := #[.double, .double, .double, .double, .double, .long, .long, .double, .double, .boolean]
  resolved := Array.replicate 460 none
  statics := none }

def pool3 : Array CpInfo := pool [(1, .class_ 2), (0, u "java/io/Serializable"), (0, .class_ 4), (0, u "java/lang/Object")] 2

/-- java/io/Serializable -/
def k3 : Class := { plain "java/io/Serializable" (some 0) with
  accessFlags := 1537
  interfaces := #[]
  cf := some (fileOf pool3 1 #[] #[] 1537 3 #[] #[])
  fields := #[]
  methods := #[]
  instanceTypes := #[]
  staticTypes := #[]
  resolved := Array.replicate 7 none
  statics := none }

def pool4 : Array CpInfo := pool [(1, .class_ 2), (0, u "java/lang/Comparable"), (0, .class_ 4), (0, u "java/lang/Object")] 7

/-- java/lang/Comparable -/
def k4 : Class := { plain "java/lang/Comparable" (some 0) with
  accessFlags := 1537
  interfaces := #[]
  cf := some (fileOf pool4 1 #[] #[] 1537 3 #[] #[])
  fields := #[]
  methods := #[]
  instanceTypes := #[]
  staticTypes := #[]
  resolved := Array.replicate 12 none
  statics := none }

def pool5 : Array CpInfo := pool [(2, .class_ 4), (1, u "java/lang/CharSequence"), (42, .class_ 48), (0, u "java/lang/CharSequence$1CodePointIterator"), (10, .class_ 60), (0, u "java/lang/CharSequence$1CharIterator"), (5, .class_ 67), (0, u "java/lang/Object")] 63

/-- java/lang/CharSequence -/
def k5 : Class := { plain "java/lang/CharSequence" (some 0) with
  accessFlags := 1537
  interfaces := #[]
  cf := some (fileOf pool5 2 #[.nestMembers #[47, 59]] #[] 1537 66 #[] #[])
  fields := #[]
  methods := #[]
  instanceTypes := #[]
  staticTypes := #[]
  resolved := Array.replicate 131 none
  statics := none }

def pool6 : Array CpInfo := pool [(1, .class_ 2), (0, u "java/lang/constant/Constable"), (0, .class_ 4), (0, u "java/lang/Object")] 6

/-- java/lang/constant/Constable -/
def k6 : Class := { plain "java/lang/constant/Constable" (some 0) with
  accessFlags := 1537
  interfaces := #[]
  cf := some (fileOf pool6 1 #[] #[] 1537 3 #[] #[])
  fields := #[]
  methods := #[]
  instanceTypes := #[]
  staticTypes := #[]
  resolved := Array.replicate 11 none
  statics := none }

def pool7 : Array CpInfo := pool [(1, .class_ 2), (0, u "java/lang/constant/ConstantDesc"), (0, .class_ 4), (0, u "java/lang/Object")] 32

/-- java/lang/constant/ConstantDesc -/
def k7 : Class := { plain "java/lang/constant/ConstantDesc" (some 0) with
  accessFlags := 1537
  interfaces := #[]
  cf := some (fileOf pool7 1 #[] #[] 1537 3 #[] #[])
  fields := #[]
  methods := #[]
  instanceTypes := #[]
  staticTypes := #[]
  resolved := Array.replicate 37 none
  statics := none }

def pool8 : Array CpInfo := pool [(2, .class_ 4), (1, u "java/lang/Object"), (0, u "<init>"), (0, u "()V"), (2, .fieldref 10 11), (0, .class_ 12), (0, .nameAndType 13 14), (0, u "java/lang/String"), (0, u "value"), (0, u "[B"), (0, .fieldref 10 16), (0, .nameAndType 17 18), (0, u "coder"), (0, u "B"), (2, u "hash"), (0, u "I"), (2, u "hashIsZero"), (0, u "Z"), (11, .fieldref 10 39), (0, .nameAndType 40 26), (0, u "COMPACT_STRINGS"), (101, u "()Z"), (191, u "()I"), (0, .methodref 10 336), (0, .nameAndType 17 337), (0, u "()B"), (53, u "(II)V"), (100, .methodref 10 493), (0, .nameAndType 494 142), (0, u "isLatin1"), (4, .methodref 10 500), (0, .nameAndType 501 391), (0, u "checkIndex"), (2, u "codePointAt"), (2, u "length"), (67, .class_ 576), (0, u "java/lang/CharSequence"), (22, u "CASE_INSENSITIVE_ORDER"), (0, u "Ljava/util/Comparator;"), (164, u "(I)I"), (287, .fieldref 1054 1055), (0, .class_ 1056), (0, .nameAndType 1057 1058), (0, u "jdk/internal/util/Preconditions"), (0, u "SIOOBE_FORMATTER"), (0, u "Ljava/util/function/BiFunction;"), (0, .methodref 1054 1060), (0, .nameAndType 501 1061), (0, u "(IILjava/util/function/BiFunction;)I"), (39, u "serialPersistentFields"), (0, u "[Ljava/io/ObjectStreamField;"), (0, .class_ 1104), (0, u "java/lang/String$CaseInsensitiveComparator"), (1, .class_ 1107), (0, u "java/io/Serializable"), (0, .class_ 1109), (0, u "java/lang/Comparable"), (0, .class_ 1111), (0, u "java/lang/constant/Constable"), (0, .class_ 1113), (0, u "java/lang/constant/ConstantDesc"), (2, u "serialVersionUID"), (0, u "J"), (3, u "REPL"), (0, u "C"), (2, u "LATIN1"), (1, u "UTF16")] 323

def k8m0 : Method := { name := "<init>", desc := "()V", sig := { parameters := [], returnType := none }, accessFlags := 1, code := none }
def k8c1 : Code := { maxStack := 2, maxLocals := 1, code := jdk_42_method_54_code, exceptionTable := #[], attributes := #[] }
def k8m1 : Method := { name := "length", desc := "()I", sig := { parameters := [], returnType := some .int }, accessFlags := 1, code := some k8c1 }
def k8c2 : Code := { maxStack := 3, maxLocals := 3, code := jdk_42_method_57_code, exceptionTable := #[], attributes := #[] }
def k8m2 : Method := { name := "codePointAt", desc := "(I)I", sig := { parameters := [.int], returnType := some .int }, accessFlags := 1, code := some k8c2 }
def k8c3 : Code := { maxStack := 1, maxLocals := 1, code := jdk_42_method_152_code, exceptionTable := #[], attributes := #[] }
def k8m3 : Method := { name := "coder", desc := "()B", sig := { parameters := [], returnType := some .byte }, accessFlags := 0, code := some k8c3 }
def k8c4 : Code := { maxStack := 1, maxLocals := 1, code := jdk_42_method_154_code, exceptionTable := #[], attributes := #[] }
def k8m4 : Method := { name := "isLatin1", desc := "()Z", sig := { parameters := [], returnType := some .boolean }, accessFlags := 0, code := some k8c4 }
def k8c5 : Code := { maxStack := 3, maxLocals := 2, code := jdk_42_method_155_code, exceptionTable := #[], attributes := #[] }
def k8m5 : Method := { name := "checkIndex", desc := "(II)V", sig := { parameters := [.int, .int], returnType := none }, accessFlags := 8, code := some k8c5 }
/-- java/lang/String -/
def k8 : Class := { plain "java/lang/String" (some 0) with
  accessFlags := 49
  interfaces := #[3, 4, 5, 6, 7]
  cf := some (fileOf pool8 10 #[.nestMembers #[1103]] #[{ accessFlags := 1, nameIndex := 5, descriptorIndex := 6, attributes := #[] }, { accessFlags := 1, nameIndex := 507, descriptorIndex := 334, attributes := #[] }, { accessFlags := 1, nameIndex := 504, descriptorIndex := 765, attributes := #[] }, { accessFlags := 0, nameIndex := 17, descriptorIndex := 337, attributes := #[] }, { accessFlags := 0, nameIndex := 494, descriptorIndex := 142, attributes := #[] }, { accessFlags := 8, nameIndex := 501, descriptorIndex := 391, attributes := #[] }] 49 2 #[1106, 1108, 575, 1110, 1112] #[{ accessFlags := 18, nameIndex := 13, descriptorIndex := 14, attributes := #[] }, { accessFlags := 18, nameIndex := 17, descriptorIndex := 18, attributes := #[] }, { accessFlags := 2, nameIndex := 21, descriptorIndex := 22, attributes := #[] }, { accessFlags := 2, nameIndex := 25, descriptorIndex := 26, attributes := #[] }, { accessFlags := 26, nameIndex := 1116, descriptorIndex := 1117, attributes := #[] }, { accessFlags := 24, nameIndex := 40, descriptorIndex := 26, attributes := #[] }, { accessFlags := 26, nameIndex := 1101, descriptorIndex := 1102, attributes := #[] }, { accessFlags := 26, nameIndex := 1121, descriptorIndex := 1122, attributes := #[] }, { accessFlags := 25, nameIndex := 599, descriptorIndex := 600, attributes := #[] }, { accessFlags := 24, nameIndex := 1125, descriptorIndex := 18, attributes := #[] }, { accessFlags := 24, nameIndex := 1127, descriptorIndex := 18, attributes := #[] }])
  fields := #[{ name := "value", type := (.array .byte), accessFlags := 18, slot := 0, constantValue := 0 }, { name := "coder", type := .byte, accessFlags := 18, slot := 1, constantValue := 0 }, { name := "hash", type := .int, accessFlags := 2, slot := 2, constantValue := 0 }, { name := "hashIsZero", type := .boolean, accessFlags := 2, slot := 3, constantValue := 0 }, { name := "serialVersionUID", type := .long, accessFlags := 26, slot := 0, constantValue := 0 }, { name := "COMPACT_STRINGS", type := .boolean, accessFlags := 24, slot := 1, constantValue := 0 }, { name := "serialPersistentFields", type := (.array (.object "java/io/ObjectStreamField")), accessFlags := 26, slot := 2, constantValue := 0 }, { name := "REPL", type := .char, accessFlags := 26, slot := 3, constantValue := 0 }, { name := "CASE_INSENSITIVE_ORDER", type := (.object "java/util/Comparator"), accessFlags := 25, slot := 4, constantValue := 0 }, { name := "LATIN1", type := .byte, accessFlags := 24, slot := 5, constantValue := 0 }, { name := "UTF16", type := .byte, accessFlags := 24, slot := 6, constantValue := 0 }]
  methods := #[k8m0, k8m1, k8m2, k8m3, k8m4, k8m5]
  instanceTypes := #[(.array .byte), .byte, .int, .boolean]
  staticTypes := #[.long, .boolean, (.array (.object "java/io/ObjectStreamField")), .char, (.object "java/util/Comparator"), .byte, .byte]
  resolved := Array.replicate 1451 none
  statics := some 0 }

def pool9 : Array CpInfo := pool [(1, .methodref 2 3), (0, .class_ 4), (0, .nameAndType 5 6), (0, u "com/example/sorted_set_patterns/sortedsetpatterns/Field"), (0, u "<init>"), (0, u "(Ljava/lang/String;JJLcom/example/sorted_set_patterns/sortedsetpatterns/Field$Order;Z)V"), (0, .long 9007199254740992), (10, .methodref 19 20), (0, .class_ 21), (0, .nameAndType 5 22), (0, u "java/lang/Object"), (0, u "()V"), (0, .string 24), (0, u "name"), (0, .methodref 26 27), (0, .class_ 28), (0, .nameAndType 29 30), (0, u "com/example/sorted_set_patterns/sortedsetpatterns/Utf8"), (0, u "checked"), (0, u "(Ljava/lang/String;Ljava/lang/String;)Ljava/lang/String;"), (0, .fieldref 2 32), (0, .nameAndType 24 33), (0, u "Ljava/lang/String;"), (0, .fieldref 2 35), (0, .nameAndType 36 37), (0, u "min"), (0, u "J"), (0, .fieldref 2 39), (0, .nameAndType 40 37), (0, u "max"), (0, .string 42), (0, u "order"), (0, .methodref 44 45), (0, .class_ 46), (0, .nameAndType 47 48), (0, u "java/util/Objects"), (0, u "requireNonNull"), (0, u "(Ljava/lang/Object;Ljava/lang/String;)Ljava/lang/Object;"), (0, .class_ 50), (0, u "com/example/sorted_set_patterns/sortedsetpatterns/Field$Order"), (0, .fieldref 2 52), (0, .nameAndType 42 53), (0, u "Lcom/example/sorted_set_patterns/sortedsetpatterns/Field$Order;"), (0, .fieldref 2 55), (0, .nameAndType 56 57), (0, u "instant"), (0, u "Z"), (0, .fieldref 49 59), (0, .nameAndType 60 53), (0, u "HIGHER_FIRST"), (2, u "(Ljava/lang/String;JLcom/example/sorted_set_patterns/sortedsetpatterns/Field$Order;)V"), (0, .fieldref 49 65), (0, .nameAndType 66 53), (0, u "LOWER_FIRST"), (2, .long 18437736874454810624), (22, u "MAX_VALUES"), (7, u "earliestFirst"), (0, u "(Ljava/lang/String;JJ)Lcom/example/sorted_set_patterns/sortedsetpatterns/Field;"), (6, u "digit"), (0, u "(J)J")] 28

def k9c0 : Code := { maxStack := 8, maxLocals := 5, code := prog_1_method_1_code, exceptionTable := #[], attributes := #[] }
def k9m0 : Method := { name := "<init>", desc := "(Ljava/lang/String;JLcom/example/sorted_set_patterns/sortedsetpatterns/Field$Order;)V", sig := { parameters := [(.object "java/lang/String"), .long, (.object "com/example/sorted_set_patterns/sortedsetpatterns/Field$Order")], returnType := none }, accessFlags := 1, code := some k9c0 }
def k9c1 : Code := { maxStack := 3, maxLocals := 8, code := prog_1_method_2_code, exceptionTable := #[], attributes := #[] }
def k9m1 : Method := { name := "<init>", desc := "(Ljava/lang/String;JJLcom/example/sorted_set_patterns/sortedsetpatterns/Field$Order;Z)V", sig := { parameters := [(.object "java/lang/String"), .long, .long, (.object "com/example/sorted_set_patterns/sortedsetpatterns/Field$Order"), .boolean], returnType := none }, accessFlags := 2, code := some k9c1 }
def k9c2 : Code := { maxStack := 9, maxLocals := 5, code := prog_1_method_5_code, exceptionTable := #[], attributes := #[] }
def k9m2 : Method := { name := "earliestFirst", desc := "(Ljava/lang/String;JJ)Lcom/example/sorted_set_patterns/sortedsetpatterns/Field;", sig := { parameters := [(.object "java/lang/String"), .long, .long], returnType := some (.object "com/example/sorted_set_patterns/sortedsetpatterns/Field") }, accessFlags := 9, code := some k9c2 }
def k9c3 : Code := { maxStack := 4, maxLocals := 3, code := prog_1_method_12_code, exceptionTable := #[], attributes := #[] }
def k9m3 : Method := { name := "digit", desc := "(J)J", sig := { parameters := [.long], returnType := some .long }, accessFlags := 0, code := some k9c3 }
/-- com/example/sorted_set_patterns/sortedsetpatterns/Field -/
def k9 : Class := { plain "com/example/sorted_set_patterns/sortedsetpatterns/Field" (some 0) with
  accessFlags := 33
  interfaces := #[]
  cf := some (fileOf pool9 2 #[.nestMembers #[49]] #[{ accessFlags := 1, nameIndex := 5, descriptorIndex := 63, attributes := #[] }, { accessFlags := 2, nameIndex := 5, descriptorIndex := 6, attributes := #[] }, { accessFlags := 9, nameIndex := 100, descriptorIndex := 101, attributes := #[] }, { accessFlags := 0, nameIndex := 108, descriptorIndex := 109, attributes := #[] }] 33 19 #[] #[{ accessFlags := 24, nameIndex := 92, descriptorIndex := 37, attributes := #[] }, { accessFlags := 18, nameIndex := 24, descriptorIndex := 33, attributes := #[] }, { accessFlags := 18, nameIndex := 36, descriptorIndex := 37, attributes := #[] }, { accessFlags := 18, nameIndex := 40, descriptorIndex := 37, attributes := #[] }, { accessFlags := 18, nameIndex := 42, descriptorIndex := 53, attributes := #[] }, { accessFlags := 18, nameIndex := 56, descriptorIndex := 57, attributes := #[] }])
  fields := #[{ name := "MAX_VALUES", type := .long, accessFlags := 24, slot := 0, constantValue := 0 }, { name := "name", type := (.object "java/lang/String"), accessFlags := 18, slot := 0, constantValue := 0 }, { name := "min", type := .long, accessFlags := 18, slot := 1, constantValue := 0 }, { name := "max", type := .long, accessFlags := 18, slot := 2, constantValue := 0 }, { name := "order", type := (.object "com/example/sorted_set_patterns/sortedsetpatterns/Field$Order"), accessFlags := 18, slot := 3, constantValue := 0 }, { name := "instant", type := .boolean, accessFlags := 18, slot := 4, constantValue := 0 }]
  methods := #[k9m0, k9m1, k9m2, k9m3]
  instanceTypes := #[(.object "java/lang/String"), .long, .long, (.object "com/example/sorted_set_patterns/sortedsetpatterns/Field$Order"), .boolean]
  staticTypes := #[.long]
  resolved := Array.replicate 138 none
  statics := none }

def pool10 : Array CpInfo := pool [(2, .class_ 4), (1, u "java/lang/Enum"), (0, u "name"), (0, u "Ljava/lang/String;"), (2, u "ordinal"), (0, u "I"), (1, .class_ 14), (1, u "java/lang/Object"), (4, u "hash"), (86, .class_ 108), (1, u "java/lang/Enum$EnumDesc"), (2, .class_ 112), (0, u "java/lang/constant/Constable"), (0, .class_ 114), (0, u "java/lang/Comparable"), (0, .class_ 116), (0, u "java/io/Serializable")] 87

/-- java/lang/Enum -/
def k10 : Class := { plain "java/lang/Enum" (some 0) with
  accessFlags := 1057
  interfaces := #[6, 4, 3]
  cf := some (fileOf pool10 2 #[.nestMembers #[106]] #[] 1057 12 #[111, 113, 115] #[{ accessFlags := 18, nameIndex := 5, descriptorIndex := 6, attributes := #[] }, { accessFlags := 18, nameIndex := 9, descriptorIndex := 10, attributes := #[] }, { accessFlags := 2, nameIndex := 19, descriptorIndex := 10, attributes := #[] }])
  fields := #[{ name := "name", type := (.object "java/lang/String"), accessFlags := 18, slot := 0, constantValue := 0 }, { name := "ordinal", type := .int, accessFlags := 18, slot := 1, constantValue := 0 }, { name := "hash", type := .int, accessFlags := 2, slot := 2, constantValue := 0 }]
  methods := #[]
  instanceTypes := #[(.object "java/lang/String"), .int, .int]
  staticTypes := #[]
  resolved := Array.replicate 204 none
  statics := none }

def pool11 : Array CpInfo := pool [(1, .class_ 2), (0, u "com/example/sorted_set_patterns/sortedsetpatterns/Field$Order"), (2, u "HIGHER_FIRST"), (0, u "Lcom/example/sorted_set_patterns/sortedsetpatterns/Field$Order;"), (2, u "LOWER_FIRST"), (2, u "$VALUES"), (0, u "[Lcom/example/sorted_set_patterns/sortedsetpatterns/Field$Order;"), (6, .class_ 22), (1, u "java/lang/Enum"), (8, u "word"), (0, u "Ljava/lang/String;"), (28, .class_ 62), (0, u "com/example/sorted_set_patterns/sortedsetpatterns/Field")] 2

/-- com/example/sorted_set_patterns/sortedsetpatterns/Field$Order -/
def k11 : Class := { plain "com/example/sorted_set_patterns/sortedsetpatterns/Field$Order" (some 10) with
  accessFlags := 16433
  interfaces := #[]
  cf := some (fileOf pool11 1 #[.nestHost 61] #[] 16433 20 #[] #[{ accessFlags := 16409, nameIndex := 5, descriptorIndex := 6, attributes := #[] }, { accessFlags := 16409, nameIndex := 9, descriptorIndex := 6, attributes := #[] }, { accessFlags := 18, nameIndex := 31, descriptorIndex := 32, attributes := #[] }, { accessFlags := 4122, nameIndex := 12, descriptorIndex := 13, attributes := #[] }])
  fields := #[{ name := "HIGHER_FIRST", type := (.object "com/example/sorted_set_patterns/sortedsetpatterns/Field$Order"), accessFlags := 16409, slot := 0, constantValue := 0 }, { name := "LOWER_FIRST", type := (.object "com/example/sorted_set_patterns/sortedsetpatterns/Field$Order"), accessFlags := 16409, slot := 1, constantValue := 0 }, { name := "word", type := (.object "java/lang/String"), accessFlags := 18, slot := 3, constantValue := 0 }, { name := "$VALUES", type := (.array (.object "com/example/sorted_set_patterns/sortedsetpatterns/Field$Order")), accessFlags := 4122, slot := 2, constantValue := 0 }]
  methods := #[]
  instanceTypes := #[(.object "java/lang/String"), .int, .int, (.object "java/lang/String")]
  staticTypes := #[(.object "com/example/sorted_set_patterns/sortedsetpatterns/Field$Order"), (.object "com/example/sorted_set_patterns/sortedsetpatterns/Field$Order"), (.array (.object "com/example/sorted_set_patterns/sortedsetpatterns/Field$Order"))]
  resolved := Array.replicate 65 none
  statics := some 1 }

def pool12 : Array CpInfo := pool [(2, .class_ 4), (1, u "java/lang/Object"), (0, u "<init>"), (0, u "()V"), (1, .class_ 10), (1, u "com/example/sorted_set_patterns/sortedsetpatterns/Utf8"), (0, u "checked"), (0, u "(Ljava/lang/String;Ljava/lang/String;)Ljava/lang/String;"), (7, .class_ 22), (1, u "java/lang/String"), (2, .methodref 26 27), (0, .class_ 28), (0, .nameAndType 29 30), (0, u "java/util/Objects"), (0, u "requireNonNull"), (0, u "(Ljava/lang/Object;Ljava/lang/String;)Ljava/lang/Object;"), (0, .methodref 20 32), (0, .nameAndType 33 34), (0, u "length"), (0, u "()I"), (0, .methodref 20 36), (0, .nameAndType 37 38), (0, u "codePointAt"), (0, u "(I)I"), (0, .class_ 40), (0, u "java/lang/Character"), (0, .integer 55296), (0, .integer 57343), (17, .methodref 39 61), (0, .nameAndType 62 38), (0, u "charCount")] 7

def k12m0 : Method := { name := "<init>", desc := "()V", sig := { parameters := [], returnType := none }, accessFlags := 2, code := none }
def k12c1 : Code := { maxStack := 7, maxLocals := 4, code := prog_8_method_3_code, exceptionTable := #[], attributes := #[] }
def k12m1 : Method := { name := "checked", desc := "(Ljava/lang/String;Ljava/lang/String;)Ljava/lang/String;", sig := { parameters := [(.object "java/lang/String"), (.object "java/lang/String")], returnType := some (.object "java/lang/String") }, accessFlags := 8, code := some k12c1 }
/-- com/example/sorted_set_patterns/sortedsetpatterns/Utf8 -/
def k12 : Class := { plain "com/example/sorted_set_patterns/sortedsetpatterns/Utf8" (some 0) with
  accessFlags := 32
  interfaces := #[]
  cf := some (fileOf pool12 8 #[] #[{ accessFlags := 2, nameIndex := 5, descriptorIndex := 6, attributes := #[] }, { accessFlags := 8, nameIndex := 11, descriptorIndex := 12, attributes := #[] }] 32 2 #[] #[])
  fields := #[]
  methods := #[k12m0, k12m1]
  instanceTypes := #[]
  staticTypes := #[]
  resolved := Array.replicate 70 none
  statics := none }

def pool13 : Array CpInfo := pool [(2, .class_ 4), (1, u "java/lang/Object"), (0, u "<init>"), (0, u "()V"), (35, .class_ 44), (1, u "java/util/Objects"), (0, u "requireNonNull"), (48, u "(Ljava/lang/Object;Ljava/lang/String;)Ljava/lang/Object;")] 89

def k13m0 : Method := { name := "<init>", desc := "()V", sig := { parameters := [], returnType := none }, accessFlags := 2, code := none }
def k13c1 : Code := { maxStack := 3, maxLocals := 2, code := jdk_31_method_11_code, exceptionTable := #[], attributes := #[] }
def k13m1 : Method := { name := "requireNonNull", desc := "(Ljava/lang/Object;Ljava/lang/String;)Ljava/lang/Object;", sig := { parameters := [(.object "java/lang/Object"), (.object "java/lang/String")], returnType := some (.object "java/lang/Object") }, accessFlags := 9, code := some k13c1 }
/-- java/util/Objects -/
def k13 : Class := { plain "java/util/Objects" (some 0) with
  accessFlags := 49
  interfaces := #[]
  cf := some (fileOf pool13 42 #[] #[{ accessFlags := 2, nameIndex := 5, descriptorIndex := 6, attributes := #[] }, { accessFlags := 9, nameIndex := 45, descriptorIndex := 94, attributes := #[] }] 49 2 #[] #[])
  fields := #[]
  methods := #[k13m0, k13m1]
  instanceTypes := #[]
  staticTypes := #[]
  resolved := Array.replicate 184 none
  statics := none }

def pool14 : Array CpInfo := pool [(2, .class_ 4), (1, u "java/lang/Object"), (0, u "<init>"), (0, u "()V"), (17, .class_ 26), (1, u "jdk/internal/util/Preconditions"), (6, u "checkIndex"), (21, .class_ 56), (0, u "jdk/internal/util/Preconditions$4"), (57, .class_ 115), (0, u "jdk/internal/util/Preconditions$1"), (7, u "SIOOBE_FORMATTER"), (0, u "Ljava/util/function/BiFunction;"), (0, .class_ 126), (0, u "jdk/internal/util/Preconditions$2"), (3, u "AIOOBE_FORMATTER"), (0, .class_ 132), (0, u "jdk/internal/util/Preconditions$3"), (3, u "IOOBE_FORMATTER"), (41, u "(IILjava/util/function/BiFunction;)I")] 15

def k14m0 : Method := { name := "<init>", desc := "()V", sig := { parameters := [], returnType := none }, accessFlags := 1, code := none }
def k14c1 : Code := { maxStack := 3, maxLocals := 3, code := jdk_41_method_11_code, exceptionTable := #[], attributes := #[] }
def k14m1 : Method := { name := "checkIndex", desc := "(IILjava/util/function/BiFunction;)I", sig := { parameters := [.int, .int, (.object "java/util/function/BiFunction")], returnType := some .int }, accessFlags := 9, code := some k14c1 }
/-- jdk/internal/util/Preconditions -/
def k14 : Class := { plain "jdk/internal/util/Preconditions" (some 0) with
  accessFlags := 33
  interfaces := #[]
  cf := some (fileOf pool14 24 #[.nestMembers #[55, 131, 125, 114]] #[{ accessFlags := 1, nameIndex := 5, descriptorIndex := 6, attributes := #[] }, { accessFlags := 9, nameIndex := 33, descriptorIndex := 178, attributes := #[] }] 33 2 #[] #[{ accessFlags := 25, nameIndex := 123, descriptorIndex := 124, attributes := #[] }, { accessFlags := 25, nameIndex := 130, descriptorIndex := 124, attributes := #[] }, { accessFlags := 25, nameIndex := 136, descriptorIndex := 124, attributes := #[] }])
  fields := #[{ name := "SIOOBE_FORMATTER", type := (.object "java/util/function/BiFunction"), accessFlags := 25, slot := 0, constantValue := 0 }, { name := "AIOOBE_FORMATTER", type := (.object "java/util/function/BiFunction"), accessFlags := 25, slot := 1, constantValue := 0 }, { name := "IOOBE_FORMATTER", type := (.object "java/util/function/BiFunction"), accessFlags := 25, slot := 2, constantValue := 0 }]
  methods := #[k14m0, k14m1]
  instanceTypes := #[]
  staticTypes := #[(.object "java/util/function/BiFunction"), (.object "java/util/function/BiFunction"), (.object "java/util/function/BiFunction")]
  resolved := Array.replicate 194 none
  statics := some 2 }

def pool15 : Array CpInfo := pool [(1, .class_ 2), (0, u "java/lang/Character"), (18, u "value"), (0, u "C"), (19, .class_ 44), (1, u "java/lang/Object"), (3, .class_ 50), (1, u "java/lang/Character$CharacterCache"), (22, .integer 65536), (100, u "(I)I"), (109, u "$assertionsDisabled"), (0, u "Z"), (21, .class_ 309), (1, u "java/lang/Character$UnicodeBlock"), (73, u "TYPE"), (0, u "Ljava/lang/Class;"), (0, .class_ 386), (0, u "java/io/Serializable"), (0, .class_ 388), (0, u "java/lang/Comparable"), (0, .class_ 390), (0, u "java/lang/constant/Constable"), (0, u "MIN_RADIX"), (0, u "I"), (2, u "MAX_RADIX"), (1, u "MIN_VALUE"), (1, u "MAX_VALUE"), (3, u "UNASSIGNED"), (0, u "B"), (0, u "UPPERCASE_LETTER"), (1, u "LOWERCASE_LETTER"), (0, u "TITLECASE_LETTER"), (1, u "MODIFIER_LETTER"), (1, u "OTHER_LETTER"), (1, u "NON_SPACING_MARK"), (1, u "ENCLOSING_MARK"), (1, u "COMBINING_SPACING_MARK"), (1, u "DECIMAL_DIGIT_NUMBER"), (1, u "LETTER_NUMBER"), (1, u "OTHER_NUMBER"), (1, u "SPACE_SEPARATOR"), (1, u "LINE_SEPARATOR"), (1, u "PARAGRAPH_SEPARATOR"), (1, u "CONTROL"), (1, u "FORMAT"), (1, u "PRIVATE_USE"), (1, u "SURROGATE"), (1, u "DASH_PUNCTUATION"), (1, u "START_PUNCTUATION"), (1, u "END_PUNCTUATION"), (1, u "CONNECTOR_PUNCTUATION"), (1, u "OTHER_PUNCTUATION"), (1, u "MATH_SYMBOL"), (1, u "CURRENCY_SYMBOL"), (1, u "MODIFIER_SYMBOL"), (1, u "OTHER_SYMBOL"), (1, u "INITIAL_QUOTE_PUNCTUATION"), (1, u "FINAL_QUOTE_PUNCTUATION"), (1, u "ERROR"), (1, u "DIRECTIONALITY_UNDEFINED"), (0, u "DIRECTIONALITY_LEFT_TO_RIGHT"), (0, u "DIRECTIONALITY_RIGHT_TO_LEFT"), (0, u "DIRECTIONALITY_RIGHT_TO_LEFT_ARABIC"), (0, u "DIRECTIONALITY_EUROPEAN_NUMBER"), (0, u "DIRECTIONALITY_EUROPEAN_NUMBER_SEPARATOR"), (0, u "DIRECTIONALITY_EUROPEAN_NUMBER_TERMINATOR"), (0, u "DIRECTIONALITY_ARABIC_NUMBER"), (0, u "DIRECTIONALITY_COMMON_NUMBER_SEPARATOR"), (0, u "DIRECTIONALITY_NONSPACING_MARK"), (0, u "DIRECTIONALITY_BOUNDARY_NEUTRAL"), (0, u "DIRECTIONALITY_PARAGRAPH_SEPARATOR"), (0, u "DIRECTIONALITY_SEGMENT_SEPARATOR"), (0, u "DIRECTIONALITY_WHITESPACE"), (0, u "DIRECTIONALITY_OTHER_NEUTRALS"), (0, u "DIRECTIONALITY_LEFT_TO_RIGHT_EMBEDDING"), (0, u "DIRECTIONALITY_LEFT_TO_RIGHT_OVERRIDE"), (0, u "DIRECTIONALITY_RIGHT_TO_LEFT_EMBEDDING"), (0, u "DIRECTIONALITY_RIGHT_TO_LEFT_OVERRIDE"), (1, u "DIRECTIONALITY_POP_DIRECTIONAL_FORMAT"), (0, u "DIRECTIONALITY_LEFT_TO_RIGHT_ISOLATE"), (0, u "DIRECTIONALITY_RIGHT_TO_LEFT_ISOLATE"), (0, u "DIRECTIONALITY_FIRST_STRONG_ISOLATE"), (0, u "DIRECTIONALITY_POP_DIRECTIONAL_ISOLATE"), (0, u "MIN_HIGH_SURROGATE"), (0, u "MAX_HIGH_SURROGATE"), (1, u "MIN_LOW_SURROGATE"), (0, u "MAX_LOW_SURROGATE"), (1, u "MIN_SURROGATE"), (0, u "MAX_SURROGATE"), (0, u "MIN_SUPPLEMENTARY_CODE_POINT"), (0, u "MIN_CODE_POINT"), (0, u "MAX_CODE_POINT"), (1, u "serialVersionUID"), (0, u "J"), (2, u "SIZE"), (0, u "BYTES"), (29, u "charCount"), (58, .class_ 596), (0, u "java/lang/Character$UnicodeScript"), (0, .class_ 598), (0, u "java/lang/Character$Subset")] 5

def k15c0 : Code := { maxStack := 2, maxLocals := 1, code := jdk_89_method_18_code, exceptionTable := #[], attributes := #[] }
def k15m0 : Method := { name := "charCount", desc := "(I)I", sig := { parameters := [.int], returnType := some .int }, accessFlags := 9, code := some k15c0 }
/-- java/lang/Character -/
def k15 : Class := { plain "java/lang/Character" (some 0) with
  accessFlags := 49
  interfaces := #[3, 4, 6]
  cf := some (fileOf pool15 1 #[.nestMembers #[48, 595, 307, 597]] #[{ accessFlags := 9, nameIndex := 536, descriptorIndex := 174, attributes := #[] }] 49 42 #[385, 387, 389] #[{ accessFlags := 25, nameIndex := 391, descriptorIndex := 392, attributes := #[] }, { accessFlags := 25, nameIndex := 395, descriptorIndex := 392, attributes := #[] }, { accessFlags := 25, nameIndex := 397, descriptorIndex := 22, attributes := #[] }, { accessFlags := 25, nameIndex := 399, descriptorIndex := 22, attributes := #[] }, { accessFlags := 25, nameIndex := 383, descriptorIndex := 384, attributes := #[] }, { accessFlags := 25, nameIndex := 403, descriptorIndex := 404, attributes := #[] }, { accessFlags := 25, nameIndex := 405, descriptorIndex := 404, attributes := #[] }, { accessFlags := 25, nameIndex := 407, descriptorIndex := 404, attributes := #[] }, { accessFlags := 25, nameIndex := 408, descriptorIndex := 404, attributes := #[] }, { accessFlags := 25, nameIndex := 410, descriptorIndex := 404, attributes := #[] }, { accessFlags := 25, nameIndex := 412, descriptorIndex := 404, attributes := #[] }, { accessFlags := 25, nameIndex := 414, descriptorIndex := 404, attributes := #[] }, { accessFlags := 25, nameIndex := 416, descriptorIndex := 404, attributes := #[] }, { accessFlags := 25, nameIndex := 418, descriptorIndex := 404, attributes := #[] }, { accessFlags := 25, nameIndex := 420, descriptorIndex := 404, attributes := #[] }, { accessFlags := 25, nameIndex := 422, descriptorIndex := 404, attributes := #[] }, { accessFlags := 25, nameIndex := 424, descriptorIndex := 404, attributes := #[] }, { accessFlags := 25, nameIndex := 426, descriptorIndex := 404, attributes := #[] }, { accessFlags := 25, nameIndex := 428, descriptorIndex := 404, attributes := #[] }, { accessFlags := 25, nameIndex := 430, descriptorIndex := 404, attributes := #[] }, { accessFlags := 25, nameIndex := 432, descriptorIndex := 404, attributes := #[] }, { accessFlags := 25, nameIndex := 434, descriptorIndex := 404, attributes := #[] }, { accessFlags := 25, nameIndex := 436, descriptorIndex := 404, attributes := #[] }, { accessFlags := 25, nameIndex := 438, descriptorIndex := 404, attributes := #[] }, { accessFlags := 25, nameIndex := 440, descriptorIndex := 404, attributes := #[] }, { accessFlags := 25, nameIndex := 442, descriptorIndex := 404, attributes := #[] }, { accessFlags := 25, nameIndex := 444, descriptorIndex := 404, attributes := #[] }, { accessFlags := 25, nameIndex := 446, descriptorIndex := 404, attributes := #[] }, { accessFlags := 25, nameIndex := 448, descriptorIndex := 404, attributes := #[] }, { accessFlags := 25, nameIndex := 450, descriptorIndex := 404, attributes := #[] }, { accessFlags := 25, nameIndex := 452, descriptorIndex := 404, attributes := #[] }, { accessFlags := 25, nameIndex := 454, descriptorIndex := 404, attributes := #[] }, { accessFlags := 25, nameIndex := 456, descriptorIndex := 404, attributes := #[] }, { accessFlags := 25, nameIndex := 458, descriptorIndex := 404, attributes := #[] }, { accessFlags := 25, nameIndex := 460, descriptorIndex := 404, attributes := #[] }, { accessFlags := 24, nameIndex := 462, descriptorIndex := 392, attributes := #[] }, { accessFlags := 25, nameIndex := 464, descriptorIndex := 404, attributes := #[] }, { accessFlags := 25, nameIndex := 465, descriptorIndex := 404, attributes := #[] }, { accessFlags := 25, nameIndex := 466, descriptorIndex := 404, attributes := #[] }, { accessFlags := 25, nameIndex := 467, descriptorIndex := 404, attributes := #[] }, { accessFlags := 25, nameIndex := 468, descriptorIndex := 404, attributes := #[] }, { accessFlags := 25, nameIndex := 469, descriptorIndex := 404, attributes := #[] }, { accessFlags := 25, nameIndex := 470, descriptorIndex := 404, attributes := #[] }, { accessFlags := 25, nameIndex := 471, descriptorIndex := 404, attributes := #[] }, { accessFlags := 25, nameIndex := 472, descriptorIndex := 404, attributes := #[] }, { accessFlags := 25, nameIndex := 473, descriptorIndex := 404, attributes := #[] }, { accessFlags := 25, nameIndex := 474, descriptorIndex := 404, attributes := #[] }, { accessFlags := 25, nameIndex := 475, descriptorIndex := 404, attributes := #[] }, { accessFlags := 25, nameIndex := 476, descriptorIndex := 404, attributes := #[] }, { accessFlags := 25, nameIndex := 477, descriptorIndex := 404, attributes := #[] }, { accessFlags := 25, nameIndex := 478, descriptorIndex := 404, attributes := #[] }, { accessFlags := 25, nameIndex := 479, descriptorIndex := 404, attributes := #[] }, { accessFlags := 25, nameIndex := 480, descriptorIndex := 404, attributes := #[] }, { accessFlags := 25, nameIndex := 481, descriptorIndex := 404, attributes := #[] }, { accessFlags := 25, nameIndex := 482, descriptorIndex := 404, attributes := #[] }, { accessFlags := 25, nameIndex := 484, descriptorIndex := 404, attributes := #[] }, { accessFlags := 25, nameIndex := 485, descriptorIndex := 404, attributes := #[] }, { accessFlags := 25, nameIndex := 486, descriptorIndex := 404, attributes := #[] }, { accessFlags := 25, nameIndex := 487, descriptorIndex := 404, attributes := #[] }, { accessFlags := 25, nameIndex := 488, descriptorIndex := 404, attributes := #[] }, { accessFlags := 25, nameIndex := 489, descriptorIndex := 22, attributes := #[] }, { accessFlags := 25, nameIndex := 490, descriptorIndex := 22, attributes := #[] }, { accessFlags := 25, nameIndex := 492, descriptorIndex := 22, attributes := #[] }, { accessFlags := 25, nameIndex := 493, descriptorIndex := 22, attributes := #[] }, { accessFlags := 25, nameIndex := 495, descriptorIndex := 22, attributes := #[] }, { accessFlags := 25, nameIndex := 496, descriptorIndex := 22, attributes := #[] }, { accessFlags := 25, nameIndex := 497, descriptorIndex := 392, attributes := #[] }, { accessFlags := 25, nameIndex := 498, descriptorIndex := 392, attributes := #[] }, { accessFlags := 25, nameIndex := 499, descriptorIndex := 392, attributes := #[] }, { accessFlags := 18, nameIndex := 21, descriptorIndex := 22, attributes := #[] }, { accessFlags := 26, nameIndex := 501, descriptorIndex := 502, attributes := #[] }, { accessFlags := 25, nameIndex := 505, descriptorIndex := 392, attributes := #[] }, { accessFlags := 25, nameIndex := 506, descriptorIndex := 392, attributes := #[] }, { accessFlags := 4120, nameIndex := 284, descriptorIndex := 285, attributes := #[] }])
  fields := #[{ name := "MIN_RADIX", type := .int, accessFlags := 25, slot := 0, constantValue := 0 }, { name := "MAX_RADIX", type := .int, accessFlags := 25, slot := 1, constantValue := 0 }, { name := "MIN_VALUE", type := .char, accessFlags := 25, slot := 2, constantValue := 0 }, { name := "MAX_VALUE", type := .char, accessFlags := 25, slot := 3, constantValue := 0 }, { name := "TYPE", type := (.object "java/lang/Class"), accessFlags := 25, slot := 4, constantValue := 0 }, { name := "UNASSIGNED", type := .byte, accessFlags := 25, slot := 5, constantValue := 0 }, { name := "UPPERCASE_LETTER", type := .byte, accessFlags := 25, slot := 6, constantValue := 0 }, { name := "LOWERCASE_LETTER", type := .byte, accessFlags := 25, slot := 7, constantValue := 0 }, { name := "TITLECASE_LETTER", type := .byte, accessFlags := 25, slot := 8, constantValue := 0 }, { name := "MODIFIER_LETTER", type := .byte, accessFlags := 25, slot := 9, constantValue := 0 }, { name := "OTHER_LETTER", type := .byte, accessFlags := 25, slot := 10, constantValue := 0 }, { name := "NON_SPACING_MARK", type := .byte, accessFlags := 25, slot := 11, constantValue := 0 }, { name := "ENCLOSING_MARK", type := .byte, accessFlags := 25, slot := 12, constantValue := 0 }, { name := "COMBINING_SPACING_MARK", type := .byte, accessFlags := 25, slot := 13, constantValue := 0 }, { name := "DECIMAL_DIGIT_NUMBER", type := .byte, accessFlags := 25, slot := 14, constantValue := 0 }, { name := "LETTER_NUMBER", type := .byte, accessFlags := 25, slot := 15, constantValue := 0 }, { name := "OTHER_NUMBER", type := .byte, accessFlags := 25, slot := 16, constantValue := 0 }, { name := "SPACE_SEPARATOR", type := .byte, accessFlags := 25, slot := 17, constantValue := 0 }, { name := "LINE_SEPARATOR", type := .byte, accessFlags := 25, slot := 18, constantValue := 0 }, { name := "PARAGRAPH_SEPARATOR", type := .byte, accessFlags := 25, slot := 19, constantValue := 0 }, { name := "CONTROL", type := .byte, accessFlags := 25, slot := 20, constantValue := 0 }, { name := "FORMAT", type := .byte, accessFlags := 25, slot := 21, constantValue := 0 }, { name := "PRIVATE_USE", type := .byte, accessFlags := 25, slot := 22, constantValue := 0 }, { name := "SURROGATE", type := .byte, accessFlags := 25, slot := 23, constantValue := 0 }, { name := "DASH_PUNCTUATION", type := .byte, accessFlags := 25, slot := 24, constantValue := 0 }, { name := "START_PUNCTUATION", type := .byte, accessFlags := 25, slot := 25, constantValue := 0 }, { name := "END_PUNCTUATION", type := .byte, accessFlags := 25, slot := 26, constantValue := 0 }, { name := "CONNECTOR_PUNCTUATION", type := .byte, accessFlags := 25, slot := 27, constantValue := 0 }, { name := "OTHER_PUNCTUATION", type := .byte, accessFlags := 25, slot := 28, constantValue := 0 }, { name := "MATH_SYMBOL", type := .byte, accessFlags := 25, slot := 29, constantValue := 0 }, { name := "CURRENCY_SYMBOL", type := .byte, accessFlags := 25, slot := 30, constantValue := 0 }, { name := "MODIFIER_SYMBOL", type := .byte, accessFlags := 25, slot := 31, constantValue := 0 }, { name := "OTHER_SYMBOL", type := .byte, accessFlags := 25, slot := 32, constantValue := 0 }, { name := "INITIAL_QUOTE_PUNCTUATION", type := .byte, accessFlags := 25, slot := 33, constantValue := 0 }, { name := "FINAL_QUOTE_PUNCTUATION", type := .byte, accessFlags := 25, slot := 34, constantValue := 0 }, { name := "ERROR", type := .int, accessFlags := 24, slot := 35, constantValue := 0 }, { name := "DIRECTIONALITY_UNDEFINED", type := .byte, accessFlags := 25, slot := 36, constantValue := 0 }, { name := "DIRECTIONALITY_LEFT_TO_RIGHT", type := .byte, accessFlags := 25, slot := 37, constantValue := 0 }, { name := "DIRECTIONALITY_RIGHT_TO_LEFT", type := .byte, accessFlags := 25, slot := 38, constantValue := 0 }, { name := "DIRECTIONALITY_RIGHT_TO_LEFT_ARABIC", type := .byte, accessFlags := 25, slot := 39, constantValue := 0 }, { name := "DIRECTIONALITY_EUROPEAN_NUMBER", type := .byte, accessFlags := 25, slot := 40, constantValue := 0 }, { name := "DIRECTIONALITY_EUROPEAN_NUMBER_SEPARATOR", type := .byte, accessFlags := 25, slot := 41, constantValue := 0 }, { name := "DIRECTIONALITY_EUROPEAN_NUMBER_TERMINATOR", type := .byte, accessFlags := 25, slot := 42, constantValue := 0 }, { name := "DIRECTIONALITY_ARABIC_NUMBER", type := .byte, accessFlags := 25, slot := 43, constantValue := 0 }, { name := "DIRECTIONALITY_COMMON_NUMBER_SEPARATOR", type := .byte, accessFlags := 25, slot := 44, constantValue := 0 }, { name := "DIRECTIONALITY_NONSPACING_MARK", type := .byte, accessFlags := 25, slot := 45, constantValue := 0 }, { name := "DIRECTIONALITY_BOUNDARY_NEUTRAL", type := .byte, accessFlags := 25, slot := 46, constantValue := 0 }, { name := "DIRECTIONALITY_PARAGRAPH_SEPARATOR", type := .byte, accessFlags := 25, slot := 47, constantValue := 0 }, { name := "DIRECTIONALITY_SEGMENT_SEPARATOR", type := .byte, accessFlags := 25, slot := 48, constantValue := 0 }, { name := "DIRECTIONALITY_WHITESPACE", type := .byte, accessFlags := 25, slot := 49, constantValue := 0 }, { name := "DIRECTIONALITY_OTHER_NEUTRALS", type := .byte, accessFlags := 25, slot := 50, constantValue := 0 }, { name := "DIRECTIONALITY_LEFT_TO_RIGHT_EMBEDDING", type := .byte, accessFlags := 25, slot := 51, constantValue := 0 }, { name := "DIRECTIONALITY_LEFT_TO_RIGHT_OVERRIDE", type := .byte, accessFlags := 25, slot := 52, constantValue := 0 }, { name := "DIRECTIONALITY_RIGHT_TO_LEFT_EMBEDDING", type := .byte, accessFlags := 25, slot := 53, constantValue := 0 }, { name := "DIRECTIONALITY_RIGHT_TO_LEFT_OVERRIDE", type := .byte, accessFlags := 25, slot := 54, constantValue := 0 }, { name := "DIRECTIONALITY_POP_DIRECTIONAL_FORMAT", type := .byte, accessFlags := 25, slot := 55, constantValue := 0 }, { name := "DIRECTIONALITY_LEFT_TO_RIGHT_ISOLATE", type := .byte, accessFlags := 25, slot := 56, constantValue := 0 }, { name := "DIRECTIONALITY_RIGHT_TO_LEFT_ISOLATE", type := .byte, accessFlags := 25, slot := 57, constantValue := 0 }, { name := "DIRECTIONALITY_FIRST_STRONG_ISOLATE", type := .byte, accessFlags := 25, slot := 58, constantValue := 0 }, { name := "DIRECTIONALITY_POP_DIRECTIONAL_ISOLATE", type := .byte, accessFlags := 25, slot := 59, constantValue := 0 }, { name := "MIN_HIGH_SURROGATE", type := .char, accessFlags := 25, slot := 60, constantValue := 0 }, { name := "MAX_HIGH_SURROGATE", type := .char, accessFlags := 25, slot := 61, constantValue := 0 }, { name := "MIN_LOW_SURROGATE", type := .char, accessFlags := 25, slot := 62, constantValue := 0 }, { name := "MAX_LOW_SURROGATE", type := .char, accessFlags := 25, slot := 63, constantValue := 0 }, { name := "MIN_SURROGATE", type := .char, accessFlags := 25, slot := 64, constantValue := 0 }, { name := "MAX_SURROGATE", type := .char, accessFlags := 25, slot := 65, constantValue := 0 }, { name := "MIN_SUPPLEMENTARY_CODE_POINT", type := .int, accessFlags := 25, slot := 66, constantValue := 0 }, { name := "MIN_CODE_POINT", type := .int, accessFlags := 25, slot := 67, constantValue := 0 }, { name := "MAX_CODE_POINT", type := .int, accessFlags := 25, slot := 68, constantValue := 0 }, { name := "value", type := .char, accessFlags := 18, slot := 0, constantValue := 0 }, { name := "serialVersionUID", type := .long, accessFlags := 26, slot := 69, constantValue := 0 }, { name := "SIZE", type := .int, accessFlags := 25, slot := 70, constantValue := 0 }, { name := "BYTES", type := .int, accessFlags := 25, slot := 71, constantValue := 0 }, { name := "$assertionsDisabled", type := .boolean, accessFlags := 4120, slot := 72, constantValue := 0 }]
  methods := #[k15m0]
  instanceTypes := #[.char]
  staticTypes := #[.int, .int, .char, .char, (.object "java/lang/Class"), .byte, .byte, .byte, .byte, .byte, .byte, .byte, .byte, .byte, .byte, .byte, .byte, .byte, .byte, .byte, .byte, .byte, .byte, .byte, .byte, .byte, .byte, .byte, .byte, .byte, .byte, .byte, .byte, .byte, .byte, .int, .byte, .byte, .byte, .byte, .byte, .byte, .byte, .byte, .byte, .byte, .byte, .byte, .byte, .byte, .byte, .byte, .byte, .byte, .byte, .byte, .byte, .byte, .byte, .byte, .char, .char, .char, .char, .char, .char, .int, .int, .int, .long, .int, .int, .boolean]
  resolved := Array.replicate 604 none
  statics := none }

def pool16 : Array CpInfo := pool [(4, .class_ 6), (1, u "java/lang/Object"), (0, u "<init>"), (0, u "()V"), (5, .class_ 16), (1, u "java/lang/StringLatin1"), (104, u "$assertionsDisabled"), (0, u "Z"), (98, .class_ 223), (1, u "java/lang/StringLatin1$LinesSpliterator"), (166, .class_ 391), (0, u "java/lang/StringLatin1$CharsSpliterator")] 3

def k16m0 : Method := { name := "<init>", desc := "()V", sig := { parameters := [], returnType := none }, accessFlags := 0, code := none }
/-- java/lang/StringLatin1 -/
def k16 : Class := { plain "java/lang/StringLatin1" (some 0) with
  accessFlags := 48
  interfaces := #[]
  cf := some (fileOf pool16 14 #[.nestMembers #[390, 221]] #[{ accessFlags := 0, nameIndex := 7, descriptorIndex := 8, attributes := #[] }] 48 4 #[] #[{ accessFlags := 4120, nameIndex := 121, descriptorIndex := 122, attributes := #[] }])
  fields := #[{ name := "$assertionsDisabled", type := .boolean, accessFlags := 4120, slot := 0, constantValue := 0 }]
  methods := #[k16m0]
  instanceTypes := #[]
  staticTypes := #[.boolean]
  resolved := Array.replicate 395 none
  statics := none }

def pool17 : Array CpInfo := pool [(9, u "<init>"), (6, .class_ 18), (1, u "java/lang/Object"), (0, u "()V"), (1, .class_ 23), (1, u "jdk/internal/util/ArraysSupport"), (0, u "LOG2_ARRAY_LONG_INDEX_SCALE"), (0, u "I"), (2, u "U"), (0, u "Ljdk/internal/misc/Unsafe;"), (8, u "BIG_ENDIAN"), (0, u "Z"), (8, u "LOG2_BYTE_BIT_SIZE"), (4, u "LOG2_ARRAY_INT_INDEX_SCALE"), (54, u "JLA"), (0, u "Ljdk/internal/access/JavaLangAccess;"), (11, u "LOG2_ARRAY_BOOLEAN_INDEX_SCALE"), (9, u "LOG2_ARRAY_BYTE_INDEX_SCALE"), (5, u "LOG2_ARRAY_CHAR_INDEX_SCALE"), (5, u "LOG2_ARRAY_SHORT_INDEX_SCALE"), (18, u "LOG2_ARRAY_FLOAT_INDEX_SCALE"), (24, u "LOG2_ARRAY_DOUBLE_INDEX_SCALE"), (89, u "T_BOOLEAN"), (2, u "T_CHAR"), (1, u "T_FLOAT"), (1, u "T_DOUBLE"), (1, u "T_BYTE"), (1, u "T_SHORT"), (1, u "T_INT"), (1, u "T_LONG"), (1, u "SOFT_MAX_ARRAY_LENGTH")] 83

def k17m0 : Method := { name := "<init>", desc := "()V", sig := { parameters := [], returnType := none }, accessFlags := 2, code := none }
/-- jdk/internal/util/ArraysSupport -/
def k17 : Class := { plain "jdk/internal/util/ArraysSupport" (some 0) with
  accessFlags := 33
  interfaces := #[]
  cf := some (fileOf pool17 21 #[] #[{ accessFlags := 2, nameIndex := 9, descriptorIndex := 19, attributes := #[] }] 33 16 #[] #[{ accessFlags := 24, nameIndex := 28, descriptorIndex := 29, attributes := #[] }, { accessFlags := 26, nameIndex := 38, descriptorIndex := 39, attributes := #[] }, { accessFlags := 25, nameIndex := 121, descriptorIndex := 25, attributes := #[] }, { accessFlags := 25, nameIndex := 131, descriptorIndex := 25, attributes := #[] }, { accessFlags := 25, nameIndex := 137, descriptorIndex := 25, attributes := #[] }, { accessFlags := 25, nameIndex := 143, descriptorIndex := 25, attributes := #[] }, { accessFlags := 25, nameIndex := 53, descriptorIndex := 25, attributes := #[] }, { accessFlags := 25, nameIndex := 24, descriptorIndex := 25, attributes := #[] }, { accessFlags := 25, nameIndex := 162, descriptorIndex := 25, attributes := #[] }, { accessFlags := 25, nameIndex := 187, descriptorIndex := 25, attributes := #[] }, { accessFlags := 26, nameIndex := 48, descriptorIndex := 25, attributes := #[] }, { accessFlags := 25, nameIndex := 277, descriptorIndex := 25, attributes := #[] }, { accessFlags := 25, nameIndex := 280, descriptorIndex := 25, attributes := #[] }, { accessFlags := 25, nameIndex := 282, descriptorIndex := 25, attributes := #[] }, { accessFlags := 25, nameIndex := 284, descriptorIndex := 25, attributes := #[] }, { accessFlags := 25, nameIndex := 286, descriptorIndex := 25, attributes := #[] }, { accessFlags := 25, nameIndex := 288, descriptorIndex := 25, attributes := #[] }, { accessFlags := 25, nameIndex := 290, descriptorIndex := 25, attributes := #[] }, { accessFlags := 25, nameIndex := 292, descriptorIndex := 25, attributes := #[] }, { accessFlags := 26, nameIndex := 108, descriptorIndex := 109, attributes := #[] }, { accessFlags := 25, nameIndex := 294, descriptorIndex := 25, attributes := #[] }])
  fields := #[{ name := "U", type := (.object "jdk/internal/misc/Unsafe"), accessFlags := 24, slot := 0, constantValue := 0 }, { name := "BIG_ENDIAN", type := .boolean, accessFlags := 26, slot := 1, constantValue := 0 }, { name := "LOG2_ARRAY_BOOLEAN_INDEX_SCALE", type := .int, accessFlags := 25, slot := 2, constantValue := 0 }, { name := "LOG2_ARRAY_BYTE_INDEX_SCALE", type := .int, accessFlags := 25, slot := 3, constantValue := 0 }, { name := "LOG2_ARRAY_CHAR_INDEX_SCALE", type := .int, accessFlags := 25, slot := 4, constantValue := 0 }, { name := "LOG2_ARRAY_SHORT_INDEX_SCALE", type := .int, accessFlags := 25, slot := 5, constantValue := 0 }, { name := "LOG2_ARRAY_INT_INDEX_SCALE", type := .int, accessFlags := 25, slot := 6, constantValue := 0 }, { name := "LOG2_ARRAY_LONG_INDEX_SCALE", type := .int, accessFlags := 25, slot := 7, constantValue := 0 }, { name := "LOG2_ARRAY_FLOAT_INDEX_SCALE", type := .int, accessFlags := 25, slot := 8, constantValue := 0 }, { name := "LOG2_ARRAY_DOUBLE_INDEX_SCALE", type := .int, accessFlags := 25, slot := 9, constantValue := 0 }, { name := "LOG2_BYTE_BIT_SIZE", type := .int, accessFlags := 26, slot := 10, constantValue := 0 }, { name := "T_BOOLEAN", type := .int, accessFlags := 25, slot := 11, constantValue := 0 }, { name := "T_CHAR", type := .int, accessFlags := 25, slot := 12, constantValue := 0 }, { name := "T_FLOAT", type := .int, accessFlags := 25, slot := 13, constantValue := 0 }, { name := "T_DOUBLE", type := .int, accessFlags := 25, slot := 14, constantValue := 0 }, { name := "T_BYTE", type := .int, accessFlags := 25, slot := 15, constantValue := 0 }, { name := "T_SHORT", type := .int, accessFlags := 25, slot := 16, constantValue := 0 }, { name := "T_INT", type := .int, accessFlags := 25, slot := 17, constantValue := 0 }, { name := "T_LONG", type := .int, accessFlags := 25, slot := 18, constantValue := 0 }, { name := "JLA", type := (.object "jdk/internal/access/JavaLangAccess"), accessFlags := 26, slot := 19, constantValue := 0 }, { name := "SOFT_MAX_ARRAY_LENGTH", type := .int, accessFlags := 25, slot := 20, constantValue := 0 }]
  methods := #[k17m0]
  instanceTypes := #[]
  staticTypes := #[(.object "jdk/internal/misc/Unsafe"), .boolean, .int, .int, .int, .int, .int, .int, .int, .int, .int, .int, .int, .int, .int, .int, .int, .int, .int, (.object "jdk/internal/access/JavaLangAccess"), .int]
  resolved := Array.replicate 378 none
  statics := none }

def pool18 : Array CpInfo := pool [(1, u "java/lang/Cloneable"), (0, .class_ 1), (0, u "java/lang/Object"), (0, .class_ 3)] 3

/-- java/lang/Cloneable -/
def k18 : Class := { plain "java/lang/Cloneable" (some 0) with
  accessFlags := 1537
  interfaces := #[]
  cf := some (fileOf pool18 2 #[] #[] 1537 4 #[] #[])
  fields := #[]
  methods := #[]
  instanceTypes := #[]
  staticTypes := #[]
  resolved := Array.replicate 8 none
  statics := none }

/-- the primitive byte -/
def k19 : Class := { plain "byte" none with kind := .primitive 'B', accessFlags := 0x411 }
/-- [B -/
def k20 : Class := { plain "[B" (some 0) with kind := .array 19 .byte, interfaces := #[18, 3], accessFlags := 1041 }

/-- the primitive int -/
def k21 : Class := { plain "int" none with kind := .primitive 'I', accessFlags := 0x411 }
/-- [I -/
def k22 : Class := { plain "[I" (some 0) with kind := .array 21 .int, interfaces := #[18, 3], accessFlags := 1041 }

def heap : Heap := #[{ cls := 8, slots := #[.long 0, .int 1, .null, .int 0, .null, .int 0, .int 0], vm := .statics 8 },
  { cls := 11, slots := #[.ref 4, .ref 3, .null], vm := .statics 11 },
  { cls := 14, slots := #[.null, .null, .null], vm := .statics 14 },
  { cls := 11, slots := #[.null, .int 1, .int 0, .null], vm := .none },
  { cls := 11, slots := #[.null, .int 0, .int 0, .null], vm := .none }]
def classes : Array Class := #[k0, k1, k2, k3, k4, k5, k6, k7, k8, k9, k10, k11, k12, k13, k14, k15, k16, k17, k18, k19, k20, k21, k22]
def interned : List (Array UInt16 × Addr) := []
def slotsUsed : Nat := 21
def theMethod : MethodId := ⟨1, 1⟩
def args0 : Array Value := #[.long 5, .long 5, .long 5, .int 5]
def aboutOver (below : List Frame) : State where
  vm := { classes := classes, interned := interned.toArray }
  heap := heap
  slotsUsed := slotsUsed
  threads := #[{ frames := .invoking theMethod args0 :: below }]
def below0 : List Frame := [.native { method := ⟨0, 0⟩, args := #[] }]
def about1 : State := aboutOver below0
def p0 : Program := .bare "" "" ""
def e0 : Env := launch0.env 0 0 0
theorem w_frames : about1.frames = Frame.invoking theMethod args0 :: below0 := rfl
set_option maxRecDepth 65536 in
theorem w_args : argsFit about1.vm theMethod args0 = true := by decide +kernel
set_option maxRecDepth 65536 in
theorem w_heap : heapFits about1 = true := by decide +kernel
set_option maxRecDepth 65536 in
theorem w_runnable : about1.curStatus? = some .runnable := by decide +kernel
set_option maxRecDepth 65536 in
theorem w_alone : about1.alone = true := by decide +kernel
set_option maxRecDepth 65536 in
theorem w_named : about1.methodNamed? x = some theMethod := by decide +kernel
set_option maxRecDepth 65536 in
theorem w_hears : about1.hears theMethod below0 = true := by decide +kernel
set_option maxRecDepth 65536 in
theorem w_ripe : about1.ripe theMethod args0 below0 = true := by decide +kernel
theorem w_running : about1.status = .running := rfl
set_option maxRecDepth 65536 in
theorem w_room : about1.hasRoom e0.platform room_1 = true :=
  launch0.hasRoom_least _ room_1 (by decide +kernel) (by decide +kernel) (by decide +kernel) (by decide +kernel) (by decide +kernel) (by decide +kernel)
theorem allAtoms_all (ts : List Jvm.Cond) (a : Array Jvm.Value) (st : Jvm.State) : (allAtoms ts).before a st = ts.all (fun c => c.before a st) := by
  induction ts with
  | nil => rfl
  | cons c t ih =>
    show (Jvm.Cond.and c (allAtoms t)).before a st = _
    rw [Jvm.Cond.before_and, ih, List.all_cons]
def words1 : List Jvm.Cond := Jvm.Cond.code x code maxLocals ret :: tables_1
/-- a 'code' word, met by the world's own term for the bytes: nothing is compared byte by byte -/
theorem code_word {y : MethodName} {bytes : ByteArray} {mx : Nat} {rt : Option FieldType} {a : Array Value} {s : State} {m : MethodId} {meth : Method} {c : Code} (h1 : s.methodNamed? y = some m) (h2 : s.vm.method? m = some meth) (h3 : meth.code = some c) (h4 : c.code = bytes)
    (h5 : (c.maxLocals == mx && c.exceptionTable.isEmpty && decide (c.maxStack ≤ mostOperands) && decide (meth.sig.returnType = rt) && !meth.locks && decide (parseMethodDescriptor y.desc = some meth.sig)) = true) : (Jvm.Cond.code y bytes mx rt).before a s = true := by
  simp only [Bool.and_eq_true, beq_iff_eq, Bool.not_eq_true', decide_eq_true_eq] at h5
  obtain ⟨⟨⟨⟨⟨g1, g2⟩, g3⟩, g4⟩, g5⟩, g6⟩ := h5
  simp [Cond.before, Cond.holds, Cond.value, h1, h2, h3, h4, g1, g2, g3, g4, g5, g6]
def isCode : Jvm.Cond → Bool
  | .code _ _ _ _ => true
  | _ => false
theorem all_split {L : List Jvm.Cond} {P : Jvm.Cond → Bool} (h1 : L.all (fun c => isCode c || P c) = true) (h2 : ∀ c ∈ L.filter isCode, P c = true) : L.all P = true := by
  refine List.all_eq_true.mpr fun c hc => ?_
  have h := List.all_eq_true.mp h1 c hc
  rcases Bool.eq_false_or_eq_true (isCode c) with hi | hi
  · exact h2 c (List.mem_filter.mpr ⟨hc, hi⟩)
  · simpa [hi] using h
set_option maxRecDepth 65536 in
theorem w_c0 : (Jvm.Cond.code x code maxLocals ret).before args0 about1 = true := code_word (m := ⟨1, 1⟩) (meth := k1m1) (c := k1c1) (by decide +kernel) rfl rfl rfl (by decide +kernel)
set_option maxRecDepth 65536 in
theorem w_c1 : (Jvm.Cond.code ({ cls := "java/lang/Math", name := "min", desc := "(JJ)J" } : Jvm.MethodName) jdk_29_method_70_code (4 : Nat) (Option.some Jvm.ClassFile.FieldType.long)).before args0 about1 = true := code_word (m := ⟨2, 1⟩) (meth := k2m1) (c := k2c1) (by decide +kernel) rfl rfl rfl (by decide +kernel)
set_option maxRecDepth 65536 in
theorem w_c2 : (Jvm.Cond.code ({ cls := "com/example/sorted_set_patterns/sortedsetpatterns/Field", name := "earliestFirst", desc := "(Ljava/lang/String;JJ)Lcom/example/sorted_set_patterns/sortedsetpatterns/Field;" } : Jvm.MethodName) prog_1_method_5_code (5 : Nat) (Option.some (Jvm.ClassFile.FieldType.object "com/example/sorted_set_patterns/sortedsetpatterns/Field"))).before args0 about1 = true := code_word (m := ⟨9, 2⟩) (meth := k9m2) (c := k9c2) (by decide +kernel) rfl rfl rfl (by decide +kernel)
set_option maxRecDepth 65536 in
theorem w_c3 : (Jvm.Cond.code ({ cls := "com/example/sorted_set_patterns/sortedsetpatterns/Field", name := "<init>", desc := "(Ljava/lang/String;JJLcom/example/sorted_set_patterns/sortedsetpatterns/Field$Order;Z)V" } : Jvm.MethodName) prog_1_method_2_code (8 : Nat) (Option.none : Option Jvm.ClassFile.FieldType)).before args0 about1 = true := code_word (m := ⟨9, 1⟩) (meth := k9m1) (c := k9c1) (by decide +kernel) rfl rfl rfl (by decide +kernel)
set_option maxRecDepth 65536 in
theorem w_c4 : (Jvm.Cond.code ({ cls := "java/lang/Object", name := "<init>", desc := "()V" } : Jvm.MethodName) object_method_1_code (1 : Nat) (Option.none : Option Jvm.ClassFile.FieldType)).before args0 about1 = true := code_word (m := ⟨0, 0⟩) (meth := k0m0) (c := k0c0) (by decide +kernel) rfl rfl rfl (by decide +kernel)
set_option maxRecDepth 65536 in
theorem w_c5 : (Jvm.Cond.code ({ cls := "com/example/sorted_set_patterns/sortedsetpatterns/Utf8", name := "checked", desc := "(Ljava/lang/String;Ljava/lang/String;)Ljava/lang/String;" } : Jvm.MethodName) prog_8_method_3_code (4 : Nat) (Option.some (Jvm.ClassFile.FieldType.object "java/lang/String"))).before args0 about1 = true := code_word (m := ⟨12, 1⟩) (meth := k12m1) (c := k12c1) (by decide +kernel) rfl rfl rfl (by decide +kernel)
set_option maxRecDepth 65536 in
theorem w_c6 : (Jvm.Cond.code ({ cls := "java/util/Objects", name := "requireNonNull", desc := "(Ljava/lang/Object;Ljava/lang/String;)Ljava/lang/Object;" } : Jvm.MethodName) jdk_31_method_11_code (2 : Nat) (Option.some (Jvm.ClassFile.FieldType.object "java/lang/Object"))).before args0 about1 = true := code_word (m := ⟨13, 1⟩) (meth := k13m1) (c := k13c1) (by decide +kernel) rfl rfl rfl (by decide +kernel)
set_option maxRecDepth 65536 in
theorem w_c7 : (Jvm.Cond.code ({ cls := "java/lang/String", name := "length", desc := "()I" } : Jvm.MethodName) jdk_42_method_54_code (1 : Nat) (Option.some Jvm.ClassFile.FieldType.int)).before args0 about1 = true := code_word (m := ⟨8, 1⟩) (meth := k8m1) (c := k8c1) (by decide +kernel) rfl rfl rfl (by decide +kernel)
set_option maxRecDepth 65536 in
theorem w_c8 : (Jvm.Cond.code ({ cls := "java/lang/String", name := "coder", desc := "()B" } : Jvm.MethodName) jdk_42_method_152_code (1 : Nat) (Option.some Jvm.ClassFile.FieldType.byte)).before args0 about1 = true := code_word (m := ⟨8, 3⟩) (meth := k8m3) (c := k8c3) (by decide +kernel) rfl rfl rfl (by decide +kernel)
set_option maxRecDepth 65536 in
theorem w_c9 : (Jvm.Cond.code ({ cls := "java/lang/String", name := "codePointAt", desc := "(I)I" } : Jvm.MethodName) jdk_42_method_57_code (3 : Nat) (Option.some Jvm.ClassFile.FieldType.int)).before args0 about1 = true := code_word (m := ⟨8, 2⟩) (meth := k8m2) (c := k8c2) (by decide +kernel) rfl rfl rfl (by decide +kernel)
set_option maxRecDepth 65536 in
theorem w_c10 : (Jvm.Cond.code ({ cls := "java/lang/String", name := "isLatin1", desc := "()Z" } : Jvm.MethodName) jdk_42_method_154_code (1 : Nat) (Option.some Jvm.ClassFile.FieldType.boolean)).before args0 about1 = true := code_word (m := ⟨8, 4⟩) (meth := k8m4) (c := k8c4) (by decide +kernel) rfl rfl rfl (by decide +kernel)
set_option maxRecDepth 65536 in
theorem w_c11 : (Jvm.Cond.code ({ cls := "java/lang/String", name := "checkIndex", desc := "(II)V" } : Jvm.MethodName) jdk_42_method_155_code (2 : Nat) (Option.none : Option Jvm.ClassFile.FieldType)).before args0 about1 = true := code_word (m := ⟨8, 5⟩) (meth := k8m5) (c := k8c5) (by decide +kernel) rfl rfl rfl (by decide +kernel)
set_option maxRecDepth 65536 in
theorem w_c12 : (Jvm.Cond.code ({ cls := "jdk/internal/util/Preconditions", name := "checkIndex", desc := "(IILjava/util/function/BiFunction;)I" } : Jvm.MethodName) jdk_41_method_11_code (3 : Nat) (Option.some Jvm.ClassFile.FieldType.int)).before args0 about1 = true := code_word (m := ⟨14, 1⟩) (meth := k14m1) (c := k14c1) (by decide +kernel) rfl rfl rfl (by decide +kernel)
set_option maxRecDepth 65536 in
theorem w_c13 : (Jvm.Cond.code ({ cls := "java/lang/Character", name := "charCount", desc := "(I)I" } : Jvm.MethodName) jdk_89_method_18_code (1 : Nat) (Option.some Jvm.ClassFile.FieldType.int)).before args0 about1 = true := code_word (m := ⟨15, 0⟩) (meth := k15m0) (c := k15c0) (by decide +kernel) rfl rfl rfl (by decide +kernel)
set_option maxRecDepth 65536 in
theorem w_c14 : (Jvm.Cond.code ({ cls := "com/example/sorted_set_patterns/sortedsetpatterns/Field", name := "digit", desc := "(J)J" } : Jvm.MethodName) prog_1_method_12_code (3 : Nat) (Option.some Jvm.ClassFile.FieldType.long)).before args0 about1 = true := code_word (m := ⟨9, 3⟩) (meth := k9m3) (c := k9c3) (by decide +kernel) rfl rfl rfl (by decide +kernel)
set_option maxRecDepth 65536 in
theorem w_c15 : (Jvm.Cond.code ({ cls := "com/example/sorted_set_patterns/sortedsetpatterns/Field", name := "<init>", desc := "(Ljava/lang/String;JLcom/example/sorted_set_patterns/sortedsetpatterns/Field$Order;)V" } : Jvm.MethodName) prog_1_method_1_code (5 : Nat) (Option.none : Option Jvm.ClassFile.FieldType)).before args0 about1 = true := code_word (m := ⟨9, 0⟩) (meth := k9m0) (c := k9c0) (by decide +kernel) rfl rfl rfl (by decide +kernel)
def codes1 : List Jvm.Cond := [Jvm.Cond.code x code maxLocals ret, Jvm.Cond.code ({ cls := "java/lang/Math", name := "min", desc := "(JJ)J" } : Jvm.MethodName) jdk_29_method_70_code (4 : Nat) (Option.some Jvm.ClassFile.FieldType.long), Jvm.Cond.code ({ cls := "com/example/sorted_set_patterns/sortedsetpatterns/Field", name := "earliestFirst", desc := "(Ljava/lang/String;JJ)Lcom/example/sorted_set_patterns/sortedsetpatterns/Field;" } : Jvm.MethodName) prog_1_method_5_code (5 : Nat) (Option.some (Jvm.ClassFile.FieldType.object "com/example/sorted_set_patterns/sortedsetpatterns/Field")), Jvm.Cond.code ({ cls := "com/example/sorted_set_patterns/sortedsetpatterns/Field", name := "<init>", desc := "(Ljava/lang/String;JJLcom/example/sorted_set_patterns/sortedsetpatterns/Field$Order;Z)V" } : Jvm.MethodName) prog_1_method_2_code (8 : Nat) (Option.none : Option Jvm.ClassFile.FieldType), Jvm.Cond.code ({ cls := "java/lang/Object", name := "<init>", desc := "()V" } : Jvm.MethodName) object_method_1_code (1 : Nat) (Option.none : Option Jvm.ClassFile.FieldType), Jvm.Cond.code ({ cls := "com/example/sorted_set_patterns/sortedsetpatterns/Utf8", name := "checked", desc := "(Ljava/lang/String;Ljava/lang/String;)Ljava/lang/String;" } : Jvm.MethodName) prog_8_method_3_code (4 : Nat) (Option.some (Jvm.ClassFile.FieldType.object "java/lang/String")), Jvm.Cond.code ({ cls := "java/util/Objects", name := "requireNonNull", desc := "(Ljava/lang/Object;Ljava/lang/String;)Ljava/lang/Object;" } : Jvm.MethodName) jdk_31_method_11_code (2 : Nat) (Option.some (Jvm.ClassFile.FieldType.object "java/lang/Object")), Jvm.Cond.code ({ cls := "java/lang/String", name := "length", desc := "()I" } : Jvm.MethodName) jdk_42_method_54_code (1 : Nat) (Option.some Jvm.ClassFile.FieldType.int), Jvm.Cond.code ({ cls := "java/lang/String", name := "coder", desc := "()B" } : Jvm.MethodName) jdk_42_method_152_code (1 : Nat) (Option.some Jvm.ClassFile.FieldType.byte), Jvm.Cond.code ({ cls := "java/lang/String", name := "codePointAt", desc := "(I)I" } : Jvm.MethodName) jdk_42_method_57_code (3 : Nat) (Option.some Jvm.ClassFile.FieldType.int), Jvm.Cond.code ({ cls := "java/lang/String", name := "isLatin1", desc := "()Z" } : Jvm.MethodName) jdk_42_method_154_code (1 : Nat) (Option.some Jvm.ClassFile.FieldType.boolean), Jvm.Cond.code ({ cls := "java/lang/String", name := "checkIndex", desc := "(II)V" } : Jvm.MethodName) jdk_42_method_155_code (2 : Nat) (Option.none : Option Jvm.ClassFile.FieldType), Jvm.Cond.code ({ cls := "jdk/internal/util/Preconditions", name := "checkIndex", desc := "(IILjava/util/function/BiFunction;)I" } : Jvm.MethodName) jdk_41_method_11_code (3 : Nat) (Option.some Jvm.ClassFile.FieldType.int), Jvm.Cond.code ({ cls := "java/lang/Character", name := "charCount", desc := "(I)I" } : Jvm.MethodName) jdk_89_method_18_code (1 : Nat) (Option.some Jvm.ClassFile.FieldType.int), Jvm.Cond.code ({ cls := "com/example/sorted_set_patterns/sortedsetpatterns/Field", name := "digit", desc := "(J)J" } : Jvm.MethodName) prog_1_method_12_code (3 : Nat) (Option.some Jvm.ClassFile.FieldType.long), Jvm.Cond.code ({ cls := "com/example/sorted_set_patterns/sortedsetpatterns/Field", name := "<init>", desc := "(Ljava/lang/String;JLcom/example/sorted_set_patterns/sortedsetpatterns/Field$Order;)V" } : Jvm.MethodName) prog_1_method_1_code (5 : Nat) (Option.none : Option Jvm.ClassFile.FieldType)]
set_option maxRecDepth 65536 in
theorem codes_eq : words1.filter isCode = codes1 := rfl
theorem w_codes : ∀ c ∈ words1.filter isCode, c.before args0 about1 = true := by
  rw [codes_eq]
  intro c hc
  simp only [codes1, List.mem_cons, List.not_mem_nil, or_false] at hc
  rcases hc with rfl | rfl | rfl | rfl | rfl | rfl | rfl | rfl | rfl | rfl | rfl | rfl | rfl | rfl | rfl | rfl
  · exact w_c0
  · exact w_c1
  · exact w_c2
  · exact w_c3
  · exact w_c4
  · exact w_c5
  · exact w_c6
  · exact w_c7
  · exact w_c8
  · exact w_c9
  · exact w_c10
  · exact w_c11
  · exact w_c12
  · exact w_c13
  · exact w_c14
  · exact w_c15
set_option maxRecDepth 65536 in
theorem w_t1 : (words1.take 24).all (fun c => isCode c || c.before args0 about1) = true := by decide +kernel
set_option maxRecDepth 65536 in
theorem w_t2 : ((words1.drop 24).take 24).all (fun c => isCode c || c.before args0 about1) = true := by decide +kernel
set_option maxRecDepth 65536 in
theorem w_t3 : (((words1.drop 24).drop 24).take 24).all (fun c => isCode c || c.before args0 about1) = true := by decide +kernel
set_option maxRecDepth 65536 in
theorem w_t4 : ((((words1.drop 24).drop 24).drop 24).take 24).all (fun c => isCode c || c.before args0 about1) = true := by decide +kernel
set_option maxRecDepth 65536 in
theorem w_t5 : ((((words1.drop 24).drop 24).drop 24).drop 24).all (fun c => isCode c || c.before args0 about1) = true := by decide +kernel
theorem w_tables : (allAtoms (Jvm.Cond.code x code maxLocals ret :: tables_1)).before args0 about1 = true := by
  rw [allAtoms_all]
  show words1.all (fun c => c.before args0 about1) = true
  refine all_split ?_ w_codes
  rw [← List.take_append_drop 24 words1, List.all_append, w_t1, ← List.take_append_drop 24 (words1.drop 24), List.all_append, w_t2, ← List.take_append_drop 24 ((words1.drop 24).drop 24), List.all_append, w_t3, ← List.take_append_drop 24 (((words1.drop 24).drop 24).drop 24), List.all_append, w_t4, w_t5]
  rfl
set_option maxRecDepth 65536 in
theorem w_rest : rest_1_c.before args0 about1 = true := by decide +kernel
set_option maxRecDepth 65536 in
theorem w_case : (Jvm.Cond.and given_1 narrow_1).before args0 about1 = true := by decide +kernel
set_option maxRecDepth 65536 in
theorem w_consts : constsHeld consts_1 about1 := Jvm.Lit.constsHeldB_iff.mp (by decide +kernel)
theorem w_applies : (headSpec (Jvm.Cond.code x code maxLocals ret :: tables_1) room_1).applies x e0.platform about1 = true :=
  (Spec.applies_iff w_frames).mpr ⟨w_running, w_runnable, w_alone, w_named, w_hears, w_ripe, w_room, w_tables⟩
theorem atStart : AtStart classFile x code maxLocals ret World_1 tables_1 room_1 Calls_1 rest_1 Pre_1 launch0 p0 e0 about1 theMethod args0 below0 :=
  ⟨lists_1, trivial, launch0.admits_env _ _ _, launch0.least_env, fairChoices_fair.cas, fairChoices_fair.clock, w_frames, w_args, w_heap, w_applies, ⟨w_consts, trivial⟩, w_rest, w_case⟩
end start1
theorem witness_1 : WitnessClaimed_1 := ⟨start1.p0, start1.e0, start1.about1, start1.theMethod, start1.args0, start1.below0, start1.atStart⟩
end Jvm.Pilot.@@N@@
