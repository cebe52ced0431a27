import JvmDerived
import JvmDerived.Pilot.@@N@@Statement
import JvmDerived.Pilot.@@N@@Code
set_option linter.unusedVariables false
set_option linter.unusedSimpArgs false
@@BLOCK:NumsL.lean.txt@@
namespace Jvm.RoadKit
open Sem ClassFile Op Lib Jvm.Stand Jvm.Free Jvm.LawKit
section OwnNew
variable {p : Program} {l : Launch} {e : Env} {R : Room} {s : State} {m : MethodId} {args : Array Value} {below : List Frame} {meth : Method} {c : Code} {T : State} {locs : List Loc} {cells slots : Nat} {h : Heap}
/-- from S the run comes to an end of which Q holds -/
def OwnGo (p : Program) (e : Env) (below : List Frame) (S : State) (Q : Outcome → State → Prop) : Prop :=
  ∃ s₂ o, Steps p.tables e below S s₂ ∧ s₂.status = .running ∧ Ended s₂ below o ∧ Q o s₂
theorem own_go {S : State} {Q : Outcome → State → Prop} (k : OwnGo p e below S Q) : ∃ s₂ o, Steps p.tables e below S s₂ ∧ s₂.status = .running ∧ Ended s₂ below o ∧ Q o s₂ := k
theorem own_back {S S' : State} {Q : Outcome → State → Prop} (h : ∀ t, Steps p.tables e below S' t → Steps p.tables e below S t) (k : OwnGo p e below S' Q) : OwnGo p e below S Q := by
  obtain ⟨s2, o, h1, h2⟩ := k
  exact ⟨s2, o, h _ h1, h2⟩
theorem own_seq {S S' : State} {Q : Outcome → State → Prop} (h : Steps p.tables e below S S') (k : OwnGo p e below S' Q) : OwnGo p e below S Q := own_back (fun _ ht => h.trans ht) k
abbrev OwnEnd (s : State) (Qf : Option Value → Heap → List Loc → Prop) (C S : Nat) : Outcome → State → Prop := fun o U' => ∃ v L, o = .returned v ∧ Qf v U'.heap L ∧ FrameEnd s o U' L C S
theorem own_end (X : Stand p l e R s m args below meth c T locs cells slots) (hlocks : meth.locks = false) {v : Option Value} (hv : meth.sig.returnType = none → v = none) {S : State} {Qf : Option Value → Heap → List Loc → Prop} {C Sl : Nat} (eT : T.heap = h) (hc : cells ≤ C) (hs : slots ≤ Sl) (hq : Qf v h locs)
    (step : ∀ fs : List Frame, (∀ (f : JFrame) (acts : List Action), f.method = m → f.locked = none → f.entered = [] → (doReturn e (T.setTop f) acts v).1 = T.setFrames fs) → Steps p.tables e below S (T.setFrames fs)) : OwnGo p e below S (OwnEnd s Qf C Sl) := by
  obtain ⟨fs, hr, hrun, hended, hW, hsame⟩ := X.leave (v := v) hv hlocks
  refine ⟨_, _, step fs hr, hrun, hended, v, locs, rfl, ?_, ⟨_, rfl⟩, hW, hsame.mono hc hs⟩
  show Qf v T.heap locs
  rw [eT]; exact hq
theorem own_backN {Z : State} {a0 : Array Value} {y : MethodName} {bytes : ByteArray} {maxL : Nat} {ret : Option FieldType} {rm : Room} {len W : Nat} {as' : Array Value} {Q : Option Value → Heap → List Loc → Prop}
    (hM : MetFree l y (head1 [Cond.code y bytes maxL ret] rm) (fun a U => a = as' ∧ Z.Warmed39 U.vm ∧ U.heap = h) (fun _ _ _ _ _ => True) (fun _ U o U' => OwnEnd U Q rm.cells rm.slots o U'))
    (hZ : Z.Warmed39 s.vm) (wc : (Cond.code y bytes maxL ret).before a0 Z = true) (wz : (Cond.initialized y.cls).before a0 Z = true) (hf : rm.frames + 1 ≤ R.frames) (hl : W + (maxL + 11) + rm.locals ≤ R.locals) :
    Back l R p e below s args y len W (fun A a => a = as' ∧ A.U.heap = h ∧ A.cells + rm.cells ≤ R.cells ∧ A.slots + rm.slots ≤ R.slots)
      (fun A _ v B => ∃ L, Q v B.U.heap L ∧ B.locs = A.locs ++ L ∧ B.cells = A.cells + rm.cells ∧ B.slots = A.slots + rm.slots) := backOf (Q := Q) hM hZ wc wz hf hl
theorem own_retN (X : Stand p l e R s m args below meth c T locs cells slots) (hx : p.tables.exec = Jvm.exec) (hlocks : meth.locks = false) {pc : Nat} {Ls : Array Slot} {z : Int32} {t : FieldType} {rest : List Value} (hret : meth.sig.returnType = some t) (ht : t = .boolean ∨ t = .byte ∨ t = .char ∨ t = .short) (hn : nar t z = z)
    (hd : decode c.code pc = .ok (.ireturn, 1)) {Qf : Option Value → Heap → List Loc → Prop} {C Sl : Nat} (eT : T.heap = h) (hc : cells ≤ C) (hs : slots ≤ Sl) (hq : Qf (some (.int z)) h locs) : OwnGo p e below (T.setTop (mkF m pc Ls (.int z :: rest))) (OwnEnd s Qf C Sl) :=
  own_end X hlocks (fun h => by rw [hret] at h; cases h) eT hc hs hq fun fs hr => retN X hx hret ht hd (by rw [hn]; exact hr)
theorem own_retI (X : Stand p l e R s m args below meth c T locs cells slots) (hx : p.tables.exec = Jvm.exec) (hlocks : meth.locks = false) {pc : Nat} {Ls : Array Slot} {z : Int32} {rest : List Value} (hret : meth.sig.returnType = some .int)
    (hd : decode c.code pc = .ok (.ireturn, 1)) {Qf : Option Value → Heap → List Loc → Prop} {C Sl : Nat} (eT : T.heap = h) (hc : cells ≤ C) (hs : slots ≤ Sl) (hq : Qf (some (.int z)) h locs) : OwnGo p e below (T.setTop (mkF m pc Ls (.int z :: rest))) (OwnEnd s Qf C Sl) :=
  own_end X hlocks (fun h => by rw [hret] at h; cases h) eT hc hs hq fun fs hr => retOut X hx hret rfl (Or.inl ⟨rfl, Or.inl rfl, z, rfl⟩) hd hr
theorem own_retJ (X : Stand p l e R s m args below meth c T locs cells slots) (hx : p.tables.exec = Jvm.exec) (hlocks : meth.locks = false) {pc : Nat} {Ls : Array Slot} {z : Int64} {rest : List Value} (hret : meth.sig.returnType = some .long)
    (hd : decode c.code pc = .ok (.lreturn, 1)) {Qf : Option Value → Heap → List Loc → Prop} {C Sl : Nat} (eT : T.heap = h) (hc : cells ≤ C) (hs : slots ≤ Sl) (hq : Qf (some (.long z)) h locs) : OwnGo p e below (T.setTop (mkF m pc Ls (.long z :: rest))) (OwnEnd s Qf C Sl) :=
  own_end X hlocks (fun h => by rw [hret] at h; cases h) eT hc hs hq fun fs hr => retOut X hx hret rfl (Or.inr (Or.inl ⟨rfl, rfl, z, rfl⟩)) hd hr
theorem own_narA {t : FieldType} {w : Value} (h : w.isRef = true) : narrow t w = w := by
  rcases ref_cases h with rfl | ⟨a, rfl⟩ <;> cases t <;> rfl
theorem own_retA (X : Stand p l e R s m args below meth c T locs cells slots) (hx : p.tables.exec = Jvm.exec) (hlocks : meth.locks = false) {pc : Nat} {Ls : Array Slot} {w : Value} {t : FieldType} {rest : List Value} (hret : meth.sig.returnType = some t) (ht : t.isReference = true) (hw : w.isRef = true)
    (hd : decode c.code pc = .ok (.areturn, 1)) {Qf : Option Value → Heap → List Loc → Prop} {C Sl : Nat} (eT : T.heap = h) (hc : cells ≤ C) (hs : slots ≤ Sl) (hq : Qf (some w) h locs) : OwnGo p e below (T.setTop (mkF m pc Ls (w :: rest))) (OwnEnd s Qf C Sl) :=
  own_end X hlocks (fun h => by rw [hret] at h; cases h) eT hc hs hq fun fs hr => retOut X hx hret (own_narA hw) (Or.inr (Or.inr (Or.inr (Or.inr ⟨rfl, ht, hw⟩)))) hd hr
theorem own_retV (X : Stand p l e R s m args below meth c T locs cells slots) (hx : p.tables.exec = Jvm.exec) (hlocks : meth.locks = false) {pc : Nat} {Ls : Array Slot} (hret : meth.sig.returnType = none)
    (hd : decode c.code pc = .ok (.return_, 1)) {Qf : Option Value → Heap → List Loc → Prop} {C Sl : Nat} (eT : T.heap = h) (hc : cells ≤ C) (hs : slots ≤ Sl) (hq : Qf none h locs) : OwnGo p e below (T.setTop (mkF m pc Ls [])) (OwnEnd s Qf C Sl) :=
  own_end X hlocks (fun _ => rfl) eT hc hs hq fun fs hr => X.returnOut hx hret hd hr
end OwnNew
section OwnTerms
variable {args : Array Value} {first s : State} {o : Option Outcome} {idx : List Nat} {t u : Term}
theorem own_eqint {k : Int32} (h : (Cond.eq t (.int k)).value args first o s idx = some true) : t.eval args first o idx s = some (.int k) := by
  cases ha : t.eval args first o idx s with
  | none => simp [Cond.value, ha] at h
  | some x =>
    have hb : (Term.int k).eval args first o idx s = some (.int k) := Term.int_eval k
    cases x <;> simp [Cond.value, ha, hb, Value.isRef] at h ⊢
    exact h
theorem own_eqref {w : Addr} (hu : u.eval args first o idx s = some (.ref w)) (h : (Cond.eq t u).value args first o s idx = some true) : t.eval args first o idx s = some (.ref w) := by
  cases ha : t.eval args first o idx s with
  | none => simp [Cond.value, ha] at h
  | some x =>
    cases x <;> simp [Cond.value, ha, hu, Value.isRef] at h ⊢
    exact h
end OwnTerms
section OwnArr
variable {s : State} {args : Array Value} {t u : Term} {a : Addr} {c : Cell} {ty : FieldType}
theorem own_nat32 {n : Nat} (h : n < 2 ^ 31) : n.toInt32.toNatClampNeg = n := by
  have e : n.toInt32.toInt = n := Int32.toInt_ofNat_of_lt h
  have := nat_of (j := n.toInt32) (by rw [Int32.lt_iff_toInt_lt, e]; have z : (0 : Int32).toInt = 0 := rfl; omega)
  omega
theorem own_len {n : Int32} (A : Arr s s.heap a c ty) (et : t.eval args s none [] s = some (.ref a)) (h : (Cond.eq (.length t) (.int n)).value args s none s [] = some true) {k : Nat} (hk : n.toNatClampNeg = k := by rfl) : c.slots.size = k := by
  have e := own_eqint h
  have ha : s.arrayAt? a = some c := IntBox.arrayAt_of A.1 A.2.1 A.2.2
  by_cases hl : c.slots.size < 2 ^ 31
  · rw [len_f et ha hl] at e
    have e2 : c.slots.size.toInt32 = n := by injection e with e; injection e
    rw [← hk, ← e2]
    exact (own_nat32 hl).symm
  · simp [Term.eval, et, ha, hl] at e
theorem own_elem {j k : Int32} (A : Arr s s.heap a c ty) (et : t.eval args s none [] s = some (.ref a)) (h : (Cond.eq (.elem t (.int j)) (.int k)).value args s none s [] = some true) (hj : ¬ j < 0) : c.slots[j.toNatClampNeg]? = some (.int k) := by
  have e := own_eqint h
  have ha : s.arrayAt? a = some c := IntBox.arrayAt_of A.1 A.2.1 A.2.2
  rw [elem_f et (Term.int_eval j) ha hj] at e
  exact e
theorem own_elemR {j : Int32} {w : Addr} (A : Arr s s.heap a c ty) (et : t.eval args s none [] s = some (.ref a)) (hu : u.eval args s none [] s = some (.ref w)) (h : (Cond.eq (.elem t (.int j)) u).value args s none s [] = some true) (hj : ¬ j < 0) : c.slots[j.toNatClampNeg]? = some (.ref w) := by
  have e := own_eqref hu h
  have ha : s.arrayAt? a = some c := IntBox.arrayAt_of A.1 A.2.1 A.2.2
  rw [elem_f et (Term.int_eval j) ha hj] at e
  exact e
end OwnArr
section OwnMore
variable {Z : State} {h h' : Heap}
theorem own_arr_ne {a b : Addr} {c d : Cell} {t u : FieldType} (A : Arr Z h a c t) (B : Arr Z h b d u) (q : t ≠ u) : a ≠ b := fun e => by
  subst e
  cases A.1.symm.trans B.1
  obtain ⟨-, k1, h1, cp1, h2⟩ := A.2.1
  obtain ⟨-, k2, h3, cp2, h4⟩ := B.2.1
  cases h1.symm.trans h3
  rw [h2] at h4
  injection h4 with _ h5
  exact q h5
theorem own_arv_ne {a b : Addr} {k k' : ClassId} {t u : FieldType} {z z' : Int32} {vs vs' : List Value} {d d' : Value} (A : Arv Z h a k t z vs d) (B : Arv Z h b k' u z' vs' d') (q : t ≠ u) : a ≠ b := by
  obtain ⟨c, A, -⟩ := A
  obtain ⟨c', B, -⟩ := B
  exact own_arr_ne A B q
theorem own_ext (K : Keep h h' []) : Ext h h' := ⟨K.1, fun x c q => K.2.1 x c q nin0⟩
theorem own_fitA {t : FieldType} {w : Value} (hw : w.isRef = true) (ht : t.isReference = true := by rfl) : fits t w = true := by
  rcases ref_cases hw with rfl | ⟨a, rfl⟩ <;> cases t <;> first | rfl | cases ht
end OwnMore
section OwnRem
variable {p : Program} {l : Launch} {e : Env} {R : Room} {s : State} {m : MethodId} {args : Array Value} {below : List Frame} {meth : Method} {c : Code} {T : State} {locs : List Loc} {cells slots : Nat}
theorem own_lrem {g : JFrame} {target : State} (X : Stand p l e R s m args below meth c T locs cells slots) (hx : p.tables.exec = Jvm.exec) (hg : g.method = m) {x y : Int64} {rest : List Value} (hd : decode c.code g.pc = .ok (.lrem, 1)) (hs : g.stack = .long y :: .long x :: rest) (hy : y ≠ 0)
    (hr : Steps p.tables e below (T.setTop { g with pc := g.pc + 1, stack := .long (x % y) :: rest }) target) : Steps p.tables e below (T.setTop g) target :=
  XS.lrem X.here hx hg hd hs hy (by rw [lrem_mod]; exact hr)
end OwnRem
end Jvm.RoadKit
namespace Jvm.Pilot.@@N@@
open Jvm Jvm.ClassFile Sem Op Lib Jvm.Free Jvm.Stand Jvm.LawKit Jvm.RoadKit Bundle Jvm.Pilot.@@N@@.Jvm.D
theorem pk_d0 : decode method_2_code 0 = .ok (.iload_n 0, 1) := by decide +kernel
theorem pk_d1 : decode method_2_code 1 = .ok (.ifCond .ne 7, 3) := by decide +kernel
theorem pk_d4 : decode method_2_code 4 = .ok (.getstatic 7, 3) := by decide +kernel
theorem pk_d7 : decode method_2_code 7 = .ok (.areturn, 1) := by decide +kernel
theorem pk_d8 : decode method_2_code 8 = .ok (.iload_n 0, 1) := by decide +kernel
theorem pk_d9 : decode method_2_code 9 = .ok (.iconst 1, 1) := by decide +kernel
theorem pk_d10 : decode method_2_code 10 = .ok (.if_icmp .ne 7, 3) := by decide +kernel
theorem pk_d13 : decode method_2_code 13 = .ok (.getstatic 13, 3) := by decide +kernel
theorem pk_d16 : decode method_2_code 16 = .ok (.areturn, 1) := by decide +kernel
theorem pk_d17 : decode method_2_code 17 = .ok (.iload_n 0, 1) := by decide +kernel
theorem pk_d18 : decode method_2_code 18 = .ok (.iconst 2, 1) := by decide +kernel
theorem pk_d19 : decode method_2_code 19 = .ok (.if_icmp .ne 7, 3) := by decide +kernel
theorem pk_d22 : decode method_2_code 22 = .ok (.getstatic 16, 3) := by decide +kernel
theorem pk_d25 : decode method_2_code 25 = .ok (.areturn, 1) := by decide +kernel
theorem pk_d26 : decode method_2_code 26 = .ok (.iload_n 0, 1) := by decide +kernel
theorem pk_d27 : decode method_2_code 27 = .ok (.iconst 3, 1) := by decide +kernel
theorem pk_d28 : decode method_2_code 28 = .ok (.if_icmp .ne 7, 3) := by decide +kernel
theorem pk_d31 : decode method_2_code 31 = .ok (.getstatic 19, 3) := by decide +kernel
theorem pk_d34 : decode method_2_code 34 = .ok (.areturn, 1) := by decide +kernel
theorem pk_d35 : decode method_2_code 35 = .ok (.iload_n 0, 1) := by decide +kernel
theorem pk_d36 : decode method_2_code 36 = .ok (.iconst 4, 1) := by decide +kernel
theorem pk_d37 : decode method_2_code 37 = .ok (.if_icmp .ne 7, 3) := by decide +kernel
theorem pk_d40 : decode method_2_code 40 = .ok (.getstatic 22, 3) := by decide +kernel
theorem pk_d43 : decode method_2_code 43 = .ok (.areturn, 1) := by decide +kernel
theorem pk_d44 : decode method_2_code 44 = .ok (.getstatic 25, 3) := by decide +kernel
theorem pk_d47 : decode method_2_code 47 = .ok (.areturn, 1) := by decide +kernel
theorem pk_pn : plainName "com/example/lease/lease/JobStatusIsStoppedPinLaw" = true := by first | (simp [plainName, overriddenIn]; done) | decide +kernel
theorem pk_ef (m : MethodId) (x0 : Int32) : entryFrame m #[(.int x0)] 1 = mkF m 0 #[.val (.int x0)] [] := by first | (simp [entryFrame, mkF, argsToLocals, Value.category]; done) | rfl
set_option maxRecDepth 65536 in
set_option maxHeartbeats 40000000 in
theorem rm_pick (l : Launch) (Z : State) (a0 : Array Value) (hw : ∀ d ∈ tables_1, d.before a0 Z = true) (ws : List Jvm.Cond) (p1 : Int32) (wRUNNING : Addr) (wCOMPLETED : Addr) (wCOMPLETED_WITH_ERRORS : Addr) (wFAILED : Addr) (wSTOPPING : Addr) (wSTOPPED : Addr) (h0 : Heap) (n0 : Nat) (Z0 : n0 ≤ h0.size) (SRUNNING : Sta Z h0 "com/example/lease/lease/JobStatus" "RUNNING" "Lcom/example/lease/lease/JobStatus;" (.ref wRUNNING)) (SCOMPLETED : Sta Z h0 "com/example/lease/lease/JobStatus" "COMPLETED" "Lcom/example/lease/lease/JobStatus;" (.ref wCOMPLETED)) (SCOMPLETED_WITH_ERRORS : Sta Z h0 "com/example/lease/lease/JobStatus" "COMPLETED_WITH_ERRORS" "Lcom/example/lease/lease/JobStatus;" (.ref wCOMPLETED_WITH_ERRORS)) (SFAILED : Sta Z h0 "com/example/lease/lease/JobStatus" "FAILED" "Lcom/example/lease/lease/JobStatus;" (.ref wFAILED)) (SSTOPPING : Sta Z h0 "com/example/lease/lease/JobStatus" "STOPPING" "Lcom/example/lease/lease/JobStatus;" (.ref wSTOPPING)) (SSTOPPED : Sta Z h0 "com/example/lease/lease/JobStatus" "STOPPED" "Lcom/example/lease/lease/JobStatus;" (.ref wSTOPPED)) :
    MetFree l (⟨"com/example/lease/lease/JobStatusIsStoppedPinLaw", "pick", "(I)Lcom/example/lease/lease/JobStatus;"⟩ : MethodName) (head1 (Jvm.Cond.code (⟨"com/example/lease/lease/JobStatusIsStoppedPinLaw", "pick", "(I)Lcom/example/lease/lease/JobStatus;"⟩ : MethodName) method_2_code 1 (some (.object "com/example/lease/lease/JobStatus")) :: ws) ({ frames := 0, cells := 0, slots := 0, locals := 0 } : Room)) (fun a U => a = #[(.int p1)] ∧ Z.Warmed39 U.vm ∧ U.heap = h0) (fun _ _ _ _ _ => True) (fun _ U o U' => OwnEnd U (fun v h L => v = some (.ref (if p1 = 0 then wRUNNING else if p1 = 1 then wCOMPLETED else if p1 = 2 then wCOMPLETED_WITH_ERRORS else if p1 = 3 then wFAILED else if p1 = 4 then wSTOPPING else wSTOPPED)) ∧ Fr n0 L ∧ h = h0) ({ frames := 0, cells := 0, slots := 0, locals := 0 } : Room).cells ({ frames := 0, cells := 0, slots := 0, locals := 0 } : Room).slots o U') := by
  refine MetFree.of_bodySF (plainFor_of_name pk_pn) hisR ?_
  intro p e s m args below meth c s₁ Bd hml0 hP hK
  obtain ⟨rfl, hZ, hh⟩ := hP
  have hx := Bd.exec
  have hby := Bd.bytes
  have hml : c.maxLocals = 1 := hml0
  have hown : s.vm.findClass "com/example/lease/lease/JobStatusIsStoppedPinLaw" = some m.cls := findClass_of_methodNamed Bd.named
  have hnm := (name_of_methodNamed Bd.named Bd.method).1
  have X0 : Stand p l e ({ frames := 0, cells := 0, slots := 0, locals := 0 } : Room) s m #[(.int p1)] below meth c s₁ [] 0 0 := Stand.of_body Bd
  have e0 : s₁.heap = h0 := by rw [← hh, Bd.state]; rfl
  have N0 := Fr.nil n0
  have KP0 := Keep.refl h0 []
  refine own_go (Q := (OwnEnd s (fun v h L => v = some (.ref (if p1 = 0 then wRUNNING else if p1 = 1 then wCOMPLETED else if p1 = 2 then wCOMPLETED_WITH_ERRORS else if p1 = 3 then wFAILED else if p1 = 4 then wSTOPPING else wSTOPPED)) ∧ Fr n0 L ∧ h = h0) ({ frames := 0, cells := 0, slots := 0, locals := 0 } : Room).cells ({ frames := 0, cells := 0, slots := 0, locals := 0 } : Room).slots)) ?_
  refine own_back (fun t k => castTop (pk_ef m p1) k) ?_
  show OwnGo p e below (s₁.setTop (mkF m 0 #[.val (.int p1)] [])) _
  refine own_back (fun t k => XS.iloadN X0.here hx rfl (hb hby pk_d0) rfl k) ?_
  show OwnGo p e below (s₁.setTop (mkF m 1 #[.val (.int p1)] [(.int p1)])) _
  by_cases hc1_101 : p1 = (0 : Int32)
  · refine own_back (fun t k => XS.ifNo X0.here hx rfl (hb hby pk_d1) rfl (Jvm.Free.XT.i0_ne_f hc1_101) k) ?_
    show OwnGo p e below (s₁.setTop (mkF m 4 #[.val (.int p1)] [])) _
    obtain ⟨T102, X102, e102, st102⟩ := getS2 X0 hx hZ hown (host := "") (Or.inl (hw _ (List.mem_of_getElem? (i := 5) rfl))) Via.refl e0 SRUNNING (g := (mkF m 4 #[.val (.int p1)] [])) rfl (hb hby pk_d4)
    refine own_back st102 ?_
    show OwnGo p e below (T102.setTop (mkF m 7 #[.val (.int p1)] [(.ref wRUNNING)])) _
    refine own_retA X102 hx Bd.notSynchronized Bd.returns rfl rfl (hb hby pk_d7) e102 (Nat.le_of_ble_eq_true rfl) (Nat.le_of_ble_eq_true rfl) ?_
    exact ⟨by simp [hc1_101], N0, rfl⟩
  · refine own_back (fun t k => XS.ifYes X0.here hx rfl (pc0 := 1) (pc' := 8) rfl (hb hby pk_d1) rfl (Jvm.Free.XT.i0_ne_t hc1_101) (by decide) (by decide) k) ?_
    show OwnGo p e below (s₁.setTop (mkF m 8 #[.val (.int p1)] [])) _
    refine own_back (fun t k => XS.iloadN X0.here hx rfl (hb hby pk_d8) rfl k) ?_
    show OwnGo p e below (s₁.setTop (mkF m 9 #[.val (.int p1)] [(.int p1)])) _
    refine own_back (fun t k => XS.iconst X0.here hx rfl (hb hby pk_d9) k) ?_
    show OwnGo p e below (s₁.setTop (mkF m 10 #[.val (.int p1)] [(.int (1 : Int32)), (.int p1)])) _
    by_cases hc10_103 : p1 = (1 : Int32)
    · refine own_back (fun t k => XS.icmpNo X0.here hx rfl (hb hby pk_d10) rfl (Jvm.Free.XT.ii_ne_f hc10_103) k) ?_
      show OwnGo p e below (s₁.setTop (mkF m 13 #[.val (.int p1)] [])) _
      obtain ⟨T104, X104, e104, st104⟩ := getS2 X0 hx hZ hown (host := "") (Or.inl (hw _ (List.mem_of_getElem? (i := 21) rfl))) Via.refl e0 SCOMPLETED (g := (mkF m 13 #[.val (.int p1)] [])) rfl (hb hby pk_d13)
      refine own_back st104 ?_
      show OwnGo p e below (T104.setTop (mkF m 16 #[.val (.int p1)] [(.ref wCOMPLETED)])) _
      refine own_retA X104 hx Bd.notSynchronized Bd.returns rfl rfl (hb hby pk_d16) e104 (Nat.le_of_ble_eq_true rfl) (Nat.le_of_ble_eq_true rfl) ?_
      exact ⟨by simp [hc1_101, hc10_103], N0, rfl⟩
    · refine own_back (fun t k => XS.icmpYes X0.here hx rfl (pc0 := 10) (pc' := 17) rfl (hb hby pk_d10) rfl (Jvm.Free.XT.ii_ne_t hc10_103) (by decide) (by decide) k) ?_
      show OwnGo p e below (s₁.setTop (mkF m 17 #[.val (.int p1)] [])) _
      refine own_back (fun t k => XS.iloadN X0.here hx rfl (hb hby pk_d17) rfl k) ?_
      show OwnGo p e below (s₁.setTop (mkF m 18 #[.val (.int p1)] [(.int p1)])) _
      refine own_back (fun t k => XS.iconst X0.here hx rfl (hb hby pk_d18) k) ?_
      show OwnGo p e below (s₁.setTop (mkF m 19 #[.val (.int p1)] [(.int (2 : Int32)), (.int p1)])) _
      by_cases hc19_105 : p1 = (2 : Int32)
      · refine own_back (fun t k => XS.icmpNo X0.here hx rfl (hb hby pk_d19) rfl (Jvm.Free.XT.ii_ne_f hc19_105) k) ?_
        show OwnGo p e below (s₁.setTop (mkF m 22 #[.val (.int p1)] [])) _
        obtain ⟨T106, X106, e106, st106⟩ := getS2 X0 hx hZ hown (host := "") (Or.inl (hw _ (List.mem_of_getElem? (i := 19) rfl))) Via.refl e0 SCOMPLETED_WITH_ERRORS (g := (mkF m 22 #[.val (.int p1)] [])) rfl (hb hby pk_d22)
        refine own_back st106 ?_
        show OwnGo p e below (T106.setTop (mkF m 25 #[.val (.int p1)] [(.ref wCOMPLETED_WITH_ERRORS)])) _
        refine own_retA X106 hx Bd.notSynchronized Bd.returns rfl rfl (hb hby pk_d25) e106 (Nat.le_of_ble_eq_true rfl) (Nat.le_of_ble_eq_true rfl) ?_
        exact ⟨by simp [hc1_101, hc10_103, hc19_105], N0, rfl⟩
      · refine own_back (fun t k => XS.icmpYes X0.here hx rfl (pc0 := 19) (pc' := 26) rfl (hb hby pk_d19) rfl (Jvm.Free.XT.ii_ne_t hc19_105) (by decide) (by decide) k) ?_
        show OwnGo p e below (s₁.setTop (mkF m 26 #[.val (.int p1)] [])) _
        refine own_back (fun t k => XS.iloadN X0.here hx rfl (hb hby pk_d26) rfl k) ?_
        show OwnGo p e below (s₁.setTop (mkF m 27 #[.val (.int p1)] [(.int p1)])) _
        refine own_back (fun t k => XS.iconst X0.here hx rfl (hb hby pk_d27) k) ?_
        show OwnGo p e below (s₁.setTop (mkF m 28 #[.val (.int p1)] [(.int (3 : Int32)), (.int p1)])) _
        by_cases hc28_107 : p1 = (3 : Int32)
        · refine own_back (fun t k => XS.icmpNo X0.here hx rfl (hb hby pk_d28) rfl (Jvm.Free.XT.ii_ne_f hc28_107) k) ?_
          show OwnGo p e below (s₁.setTop (mkF m 31 #[.val (.int p1)] [])) _
          obtain ⟨T108, X108, e108, st108⟩ := getS2 X0 hx hZ hown (host := "") (Or.inl (hw _ (List.mem_of_getElem? (i := 17) rfl))) Via.refl e0 SFAILED (g := (mkF m 31 #[.val (.int p1)] [])) rfl (hb hby pk_d31)
          refine own_back st108 ?_
          show OwnGo p e below (T108.setTop (mkF m 34 #[.val (.int p1)] [(.ref wFAILED)])) _
          refine own_retA X108 hx Bd.notSynchronized Bd.returns rfl rfl (hb hby pk_d34) e108 (Nat.le_of_ble_eq_true rfl) (Nat.le_of_ble_eq_true rfl) ?_
          exact ⟨by simp [hc1_101, hc10_103, hc19_105, hc28_107], N0, rfl⟩
        · refine own_back (fun t k => XS.icmpYes X0.here hx rfl (pc0 := 28) (pc' := 35) rfl (hb hby pk_d28) rfl (Jvm.Free.XT.ii_ne_t hc28_107) (by decide) (by decide) k) ?_
          show OwnGo p e below (s₁.setTop (mkF m 35 #[.val (.int p1)] [])) _
          refine own_back (fun t k => XS.iloadN X0.here hx rfl (hb hby pk_d35) rfl k) ?_
          show OwnGo p e below (s₁.setTop (mkF m 36 #[.val (.int p1)] [(.int p1)])) _
          refine own_back (fun t k => XS.iconst X0.here hx rfl (hb hby pk_d36) k) ?_
          show OwnGo p e below (s₁.setTop (mkF m 37 #[.val (.int p1)] [(.int (4 : Int32)), (.int p1)])) _
          by_cases hc37_109 : p1 = (4 : Int32)
          · refine own_back (fun t k => XS.icmpNo X0.here hx rfl (hb hby pk_d37) rfl (Jvm.Free.XT.ii_ne_f hc37_109) k) ?_
            show OwnGo p e below (s₁.setTop (mkF m 40 #[.val (.int p1)] [])) _
            obtain ⟨T110, X110, e110, st110⟩ := getS2 X0 hx hZ hown (host := "") (Or.inl (hw _ (List.mem_of_getElem? (i := 24) rfl))) Via.refl e0 SSTOPPING (g := (mkF m 40 #[.val (.int p1)] [])) rfl (hb hby pk_d40)
            refine own_back st110 ?_
            show OwnGo p e below (T110.setTop (mkF m 43 #[.val (.int p1)] [(.ref wSTOPPING)])) _
            refine own_retA X110 hx Bd.notSynchronized Bd.returns rfl rfl (hb hby pk_d43) e110 (Nat.le_of_ble_eq_true rfl) (Nat.le_of_ble_eq_true rfl) ?_
            exact ⟨by simp [hc1_101, hc10_103, hc19_105, hc28_107, hc37_109], N0, rfl⟩
          · refine own_back (fun t k => XS.icmpYes X0.here hx rfl (pc0 := 37) (pc' := 44) rfl (hb hby pk_d37) rfl (Jvm.Free.XT.ii_ne_t hc37_109) (by decide) (by decide) k) ?_
            show OwnGo p e below (s₁.setTop (mkF m 44 #[.val (.int p1)] [])) _
            obtain ⟨T111, X111, e111, st111⟩ := getS2 X0 hx hZ hown (host := "") (Or.inl (hw _ (List.mem_of_getElem? (i := 23) rfl))) Via.refl e0 SSTOPPED (g := (mkF m 44 #[.val (.int p1)] [])) rfl (hb hby pk_d44)
            refine own_back st111 ?_
            show OwnGo p e below (T111.setTop (mkF m 47 #[.val (.int p1)] [(.ref wSTOPPED)])) _
            refine own_retA X111 hx Bd.notSynchronized Bd.returns rfl rfl (hb hby pk_d47) e111 (Nat.le_of_ble_eq_true rfl) (Nat.le_of_ble_eq_true rfl) ?_
            exact ⟨by simp [hc1_101, hc10_103, hc19_105, hc28_107, hc37_109], N0, rfl⟩
theorem il_d0 : decode prog_13_method_4_code 0 = .ok (.aload_n 0, 1) := by decide +kernel
theorem il_d1 : decode prog_13_method_4_code 1 = .ok (.getstatic 16, 3) := by decide +kernel
theorem il_d4 : decode prog_13_method_4_code 4 = .ok (.if_acmp .eq 10, 3) := by decide +kernel
theorem il_d7 : decode prog_13_method_4_code 7 = .ok (.aload_n 0, 1) := by decide +kernel
theorem il_d8 : decode prog_13_method_4_code 8 = .ok (.getstatic 19, 3) := by decide +kernel
theorem il_d11 : decode prog_13_method_4_code 11 = .ok (.if_acmp .ne 7, 3) := by decide +kernel
theorem il_d14 : decode prog_13_method_4_code 14 = .ok (.iconst 1, 1) := by decide +kernel
theorem il_d15 : decode prog_13_method_4_code 15 = .ok (.goto 4, 3) := by decide +kernel
theorem il_d18 : decode prog_13_method_4_code 18 = .ok (.iconst 0, 1) := by decide +kernel
theorem il_d19 : decode prog_13_method_4_code 19 = .ok (.ireturn, 1) := by decide +kernel
theorem il_pn : plainName "com/example/lease/lease/JobStatus" = true := by first | (simp [plainName, overriddenIn]; done) | decide +kernel
theorem il_ef (m : MethodId) (x0 : Addr) : entryFrame m #[(.ref x0)] 1 = mkF m 0 #[.val (.ref x0)] [] := by first | (simp [entryFrame, mkF, argsToLocals, Value.category]; done) | rfl
set_option maxRecDepth 65536 in
set_option maxHeartbeats 40000000 in
theorem rm_is (l : Launch) (Z : State) (a0 : Array Value) (hw : ∀ d ∈ tables_1, d.before a0 Z = true) (ws : List Jvm.Cond) (a1 : Addr) (wSTOPPING : Addr) (wSTOPPED : Addr) (h0 : Heap) (n0 : Nat) (Z0 : n0 ≤ h0.size) (SSTOPPING : Sta Z h0 "com/example/lease/lease/JobStatus" "STOPPING" "Lcom/example/lease/lease/JobStatus;" (.ref wSTOPPING)) (SSTOPPED : Sta Z h0 "com/example/lease/lease/JobStatus" "STOPPED" "Lcom/example/lease/lease/JobStatus;" (.ref wSTOPPED)) :
    MetFree l (⟨"com/example/lease/lease/JobStatus", "isStopped", "()Z"⟩ : MethodName) (head1 (Jvm.Cond.code (⟨"com/example/lease/lease/JobStatus", "isStopped", "()Z"⟩ : MethodName) prog_13_method_4_code 1 (some .boolean) :: ws) ({ frames := 0, cells := 0, slots := 0, locals := 0 } : Room)) (fun a U => a = #[(.ref a1)] ∧ Z.Warmed39 U.vm ∧ U.heap = h0) (fun _ _ _ _ _ => True) (fun _ U o U' => OwnEnd U (fun v h L => v = some (.int (if a1 = wSTOPPING ∨ a1 = wSTOPPED then 1 else 0)) ∧ Fr n0 L ∧ h = h0) ({ frames := 0, cells := 0, slots := 0, locals := 0 } : Room).cells ({ frames := 0, cells := 0, slots := 0, locals := 0 } : Room).slots o U') := by
  refine MetFree.of_bodySF (plainFor_of_name il_pn) hisR ?_
  intro p e s m args below meth c s₁ Bd hml0 hP hK
  obtain ⟨rfl, hZ, hh⟩ := hP
  have hx := Bd.exec
  have hby := Bd.bytes
  have hml : c.maxLocals = 1 := hml0
  have hown : s.vm.findClass "com/example/lease/lease/JobStatus" = some m.cls := findClass_of_methodNamed Bd.named
  have hnm := (name_of_methodNamed Bd.named Bd.method).1
  have X0 : Stand p l e ({ frames := 0, cells := 0, slots := 0, locals := 0 } : Room) s m #[(.ref a1)] below meth c s₁ [] 0 0 := Stand.of_body Bd
  have e0 : s₁.heap = h0 := by rw [← hh, Bd.state]; rfl
  have N0 := Fr.nil n0
  have KP0 := Keep.refl h0 []
  refine own_go (Q := (OwnEnd s (fun v h L => v = some (.int (if a1 = wSTOPPING ∨ a1 = wSTOPPED then 1 else 0)) ∧ Fr n0 L ∧ h = h0) ({ frames := 0, cells := 0, slots := 0, locals := 0 } : Room).cells ({ frames := 0, cells := 0, slots := 0, locals := 0 } : Room).slots)) ?_
  refine own_back (fun t k => castTop (il_ef m a1) k) ?_
  show OwnGo p e below (s₁.setTop (mkF m 0 #[.val (.ref a1)] [])) _
  refine own_back (fun t k => XS.aloadN X0.here hx rfl (hb hby il_d0) rfl rfl k) ?_
  show OwnGo p e below (s₁.setTop (mkF m 1 #[.val (.ref a1)] [(.ref a1)])) _
  obtain ⟨T112, X112, e112, st112⟩ := getS2 X0 hx hZ hown (host := "") (Or.inl (hw _ (List.mem_of_getElem? (i := 13) rfl))) Via.refl e0 SSTOPPING (g := (mkF m 1 #[.val (.ref a1)] [(.ref a1)])) rfl (hb hby il_d1)
  refine own_back st112 ?_
  show OwnGo p e below (T112.setTop (mkF m 4 #[.val (.ref a1)] [(.ref wSTOPPING), (.ref a1)])) _
  by_cases ha4_113 : a1 = wSTOPPING
  · refine own_back (fun t k => Jvm.RoadKit.acmp (g := (mkF m 4 #[.val (.ref a1)] [(.ref wSTOPPING), (.ref a1)])) X112 hx rfl rfl rfl (pc0 := 4) (pc' := 14) (same := true) rfl (hb hby il_d4) rfl (decide_eq_true (congrArg Value.ref ha4_113)) (by decide) (by decide) k) ?_
    show OwnGo p e below (T112.setTop (mkF m 14 #[.val (.ref a1)] [])) _
    refine own_back (fun t k => XS.iconst X112.here hx rfl (hb hby il_d14) k) ?_
    show OwnGo p e below (T112.setTop (mkF m 15 #[.val (.ref a1)] [(.int (1 : Int32))])) _
    refine own_back (fun t k => XS.goto X112.here hx rfl (pc0 := 15) (pc' := 19) rfl (hb hby il_d15) (by decide) (by decide) k) ?_
    show OwnGo p e below (T112.setTop (mkF m 19 #[.val (.ref a1)] [(.int (1 : Int32))])) _
    refine own_retN X112 hx Bd.notSynchronized (t := .boolean) (z := (1 : Int32)) Bd.returns (by simp) rfl (hb hby il_d19) e112 (Nat.le_of_ble_eq_true rfl) (Nat.le_of_ble_eq_true rfl) ?_
    exact ⟨by simp [ha4_113], N0, rfl⟩
  · refine own_back (fun t k => Jvm.RoadKit.acmp (g := (mkF m 4 #[.val (.ref a1)] [(.ref wSTOPPING), (.ref a1)])) X112 hx rfl rfl rfl (pc0 := 4) (pc' := 7) (same := false) rfl (hb hby il_d4) rfl (decide_eq_false fun q => ha4_113 (Value.ref.inj q)) (by decide) (by decide) k) ?_
    show OwnGo p e below (T112.setTop (mkF m 7 #[.val (.ref a1)] [])) _
    refine own_back (fun t k => XS.aloadN X112.here hx rfl (hb hby il_d7) rfl rfl k) ?_
    show OwnGo p e below (T112.setTop (mkF m 8 #[.val (.ref a1)] [(.ref a1)])) _
    obtain ⟨T114, X114, e114, st114⟩ := getS2 X112 hx hZ hown (host := "") (Or.inl (hw _ (List.mem_of_getElem? (i := 15) rfl))) Via.refl e112 SSTOPPED (g := (mkF m 8 #[.val (.ref a1)] [(.ref a1)])) rfl (hb hby il_d8)
    refine own_back st114 ?_
    show OwnGo p e below (T114.setTop (mkF m 11 #[.val (.ref a1)] [(.ref wSTOPPED), (.ref a1)])) _
    by_cases ha11_115 : a1 = wSTOPPED
    · refine own_back (fun t k => Jvm.RoadKit.acmp (g := (mkF m 11 #[.val (.ref a1)] [(.ref wSTOPPED), (.ref a1)])) X114 hx rfl rfl rfl (pc0 := 11) (pc' := 14) (same := true) rfl (hb hby il_d11) rfl (decide_eq_true (congrArg Value.ref ha11_115)) (by decide) (by decide) k) ?_
      show OwnGo p e below (T114.setTop (mkF m 14 #[.val (.ref a1)] [])) _
      refine own_back (fun t k => XS.iconst X114.here hx rfl (hb hby il_d14) k) ?_
      show OwnGo p e below (T114.setTop (mkF m 15 #[.val (.ref a1)] [(.int (1 : Int32))])) _
      refine own_back (fun t k => XS.goto X114.here hx rfl (pc0 := 15) (pc' := 19) rfl (hb hby il_d15) (by decide) (by decide) k) ?_
      show OwnGo p e below (T114.setTop (mkF m 19 #[.val (.ref a1)] [(.int (1 : Int32))])) _
      refine own_retN X114 hx Bd.notSynchronized (t := .boolean) (z := (1 : Int32)) Bd.returns (by simp) rfl (hb hby il_d19) e114 (Nat.le_of_ble_eq_true rfl) (Nat.le_of_ble_eq_true rfl) ?_
      exact ⟨by simp [ha4_113, ha11_115], N0, rfl⟩
    · refine own_back (fun t k => Jvm.RoadKit.acmp (g := (mkF m 11 #[.val (.ref a1)] [(.ref wSTOPPED), (.ref a1)])) X114 hx rfl rfl rfl (pc0 := 11) (pc' := 18) (same := false) rfl (hb hby il_d11) rfl (decide_eq_false fun q => ha11_115 (Value.ref.inj q)) (by decide) (by decide) k) ?_
      show OwnGo p e below (T114.setTop (mkF m 18 #[.val (.ref a1)] [])) _
      refine own_back (fun t k => XS.iconst X114.here hx rfl (hb hby il_d18) k) ?_
      show OwnGo p e below (T114.setTop (mkF m 19 #[.val (.ref a1)] [(.int (0 : Int32))])) _
      refine own_retN X114 hx Bd.notSynchronized (t := .boolean) (z := (0 : Int32)) Bd.returns (by simp) rfl (hb hby il_d19) e114 (Nat.le_of_ble_eq_true rfl) (Nat.le_of_ble_eq_true rfl) ?_
      exact ⟨by simp [ha4_113, ha11_115], N0, rfl⟩
theorem own_r6 (p kk : Int32) (h : kk = (p &&& (2147483647 : Int32)) % (6 : Int32)) (h0 : ¬ kk = 0) (h1 : ¬ kk = 1) (h2 : ¬ kk = 2) (h3 : ¬ kk = 3) (h4 : ¬ kk = 4) : kk = 5 := by
  have e1 : (p &&& 2147483647).toInt = p.toInt % 2 ^ 31 := Jvm.Kit.i32_mask p 2147483647 (k := 31) (by decide) (by decide)
  have e2 : kk.toInt = (p &&& 2147483647).toInt.tmod 6 := by rw [h, Int32.toInt_mod]; rfl
  have e3 : (p &&& 2147483647).toInt.tmod 6 = (p &&& 2147483647).toInt % 6 := Int.tmod_eq_emod_of_nonneg (by omega)
  have c : ∀ n : Int32, ¬ kk = n → kk.toInt ≠ n.toInt := fun n q r => q (Int32.toInt_inj.mp r)
  have c0 := c 0 h0
  have c1 := c 1 h1
  have c2 := c 2 h2
  have c3 := c 3 h3
  have c4 := c 4 h4
  have z0 : (0 : Int32).toInt = 0 := rfl
  have z1 : (1 : Int32).toInt = 1 := rfl
  have z2 : (2 : Int32).toInt = 2 := rfl
  have z3 : (3 : Int32).toInt = 3 := rfl
  have z4 : (4 : Int32).toInt = 4 := rfl
  refine Int32.toInt_inj.mp ?_
  have z5 : (5 : Int32).toInt = 5 := rfl
  omega
theorem lw_pn : plainName "com/example/lease/lease/JobStatusIsStoppedPinLaw" = true := by first | (simp [plainName, overriddenIn]; done) | decide +kernel
theorem lw_pd0 : parseMethodDescriptor "(I)Lcom/example/lease/lease/JobStatus;" = some ⟨[.int], some (.object "com/example/lease/lease/JobStatus")⟩ := by decide +kernel
theorem lw_pd1 : parseMethodDescriptor "()Z" = some ⟨[], some .boolean⟩ := by decide +kernel
theorem lw_ef (m : MethodId) (x0 : Int32) : entryFrame m #[(.int x0)] maxLocals = mkF m 0 #[.val (.int x0), .unset, .unset, .unset] [] := by first | (simp [entryFrame, mkF, argsToLocals, Value.category, maxLocals]; done) | rfl
set_option maxRecDepth 65536 in
set_option maxHeartbeats 40000000 in
theorem rm_law (l : Launch) (Z : State) (a0 : Array Value) (hw : ∀ d ∈ tables_1, d.before a0 Z = true) (ws : List Jvm.Cond) (p1 : Int32) (wRUNNING : Addr) (wCOMPLETED : Addr) (wCOMPLETED_WITH_ERRORS : Addr) (wFAILED : Addr) (wSTOPPING : Addr) (wSTOPPED : Addr) (h0 : Heap) (n0 : Nat) (Z0 : n0 ≤ h0.size) (SRUNNING : Sta Z h0 "com/example/lease/lease/JobStatus" "RUNNING" "Lcom/example/lease/lease/JobStatus;" (.ref wRUNNING)) (SCOMPLETED : Sta Z h0 "com/example/lease/lease/JobStatus" "COMPLETED" "Lcom/example/lease/lease/JobStatus;" (.ref wCOMPLETED)) (SCOMPLETED_WITH_ERRORS : Sta Z h0 "com/example/lease/lease/JobStatus" "COMPLETED_WITH_ERRORS" "Lcom/example/lease/lease/JobStatus;" (.ref wCOMPLETED_WITH_ERRORS)) (SFAILED : Sta Z h0 "com/example/lease/lease/JobStatus" "FAILED" "Lcom/example/lease/lease/JobStatus;" (.ref wFAILED)) (SSTOPPING : Sta Z h0 "com/example/lease/lease/JobStatus" "STOPPING" "Lcom/example/lease/lease/JobStatus;" (.ref wSTOPPING)) (SSTOPPED : Sta Z h0 "com/example/lease/lease/JobStatus" "STOPPED" "Lcom/example/lease/lease/JobStatus;" (.ref wSTOPPED)) (ERUNNING : Exa Z h0 wRUNNING "com/example/lease/lease/JobStatus") (ECOMPLETED : Exa Z h0 wCOMPLETED "com/example/lease/lease/JobStatus") (ECOMPLETED_WITH_ERRORS : Exa Z h0 wCOMPLETED_WITH_ERRORS "com/example/lease/lease/JobStatus") (EFAILED : Exa Z h0 wFAILED "com/example/lease/lease/JobStatus") (ESTOPPING : Exa Z h0 wSTOPPING "com/example/lease/lease/JobStatus") (ESTOPPED : Exa Z h0 wSTOPPED "com/example/lease/lease/JobStatus") (nRUNNING1 : ¬ wRUNNING = wSTOPPING) (nRUNNING2 : ¬ wRUNNING = wSTOPPED) (nCOMPLETED1 : ¬ wCOMPLETED = wSTOPPING) (nCOMPLETED2 : ¬ wCOMPLETED = wSTOPPED) (nCOMPLETED_WITH_ERRORS1 : ¬ wCOMPLETED_WITH_ERRORS = wSTOPPING) (nCOMPLETED_WITH_ERRORS2 : ¬ wCOMPLETED_WITH_ERRORS = wSTOPPED) (nFAILED1 : ¬ wFAILED = wSTOPPING) (nFAILED2 : ¬ wFAILED = wSTOPPED) :
    MetFree l x (head1 (Jvm.Cond.code x code maxLocals ret :: ws) room_1) (fun a U => a = #[(.int p1)] ∧ Z.Warmed39 U.vm ∧ U.heap = h0) (fun _ _ _ _ _ => True) (fun _ U o U' => OwnEnd U (fun v h L => v = some (.int 1) ∧ Fr n0 L) room_1.cells room_1.slots o U') := by
  refine MetFree.of_bodySF (plainFor_of_name lw_pn) hisR ?_
  intro p e s m args below meth c s₁ Bd hml0 hP hK
  obtain ⟨rfl, hZ, hh⟩ := hP
  have hx := Bd.exec
  have hby := Bd.bytes
  have hml : c.maxLocals = 4 := hml0
  have hown : s.vm.findClass "com/example/lease/lease/JobStatusIsStoppedPinLaw" = some m.cls := findClass_of_methodNamed Bd.named
  have hnm := (name_of_methodNamed Bd.named Bd.method).1
  have X0 : Stand p l e room_1 s m #[(.int p1)] below meth c s₁ [] 0 0 := Stand.of_body Bd
  have e0 : s₁.heap = h0 := by rw [← hh, Bd.state]; rfl
  have N0 := Fr.nil n0
  have KP0 := Keep.refl h0 []
  refine own_go (Q := (OwnEnd s (fun v h L => v = some (.int 1) ∧ Fr n0 L) room_1.cells room_1.slots)) ?_
  refine own_back (fun t k => castTop (lw_ef m p1) k) ?_
  show OwnGo p e below (s₁.setTop (mkF m 0 #[.val (.int p1), .unset, .unset, .unset] [])) _
  refine own_back (fun t k => XS.iloadN X0.here hx rfl (hb hby at_0) rfl k) ?_
  show OwnGo p e below (s₁.setTop (mkF m 1 #[.val (.int p1), .unset, .unset, .unset] [(.int p1)])) _
  refine own_back (fun t k => X0.ldcInt hx hown (mvT hZ (hw _ (List.mem_of_getElem? (i := 0) rfl))) (g := (mkF m 1 #[.val (.int p1), .unset, .unset, .unset] [(.int p1)])) rfl (hb hby at_1) t k) ?_
  show OwnGo p e below (s₁.setTop (mkF m 3 #[.val (.int p1), .unset, .unset, .unset] [(.int (2147483647 : Int32)), (.int p1)])) _
  refine own_back (fun t k => XS.iand X0.here hx rfl (hb hby at_3) rfl k) ?_
  show OwnGo p e below (s₁.setTop (mkF m 4 #[.val (.int p1), .unset, .unset, .unset] [(.int (p1 &&& (2147483647 : Int32)))])) _
  refine own_back (fun t k => XS.bipush X0.here hx rfl (hb hby at_4) k) ?_
  show OwnGo p e below (s₁.setTop (mkF m 6 #[.val (.int p1), .unset, .unset, .unset] [(.int (6 : Int32)), (.int (p1 &&& (2147483647 : Int32)))])) _
  refine own_back (fun t k => iremM X0 hx rfl (hb hby at_6) rfl (by decide) k) ?_
  show OwnGo p e below (s₁.setTop (mkF m 7 #[.val (.int p1), .unset, .unset, .unset] [(.int ((p1 &&& (2147483647 : Int32)) % (6 : Int32)))])) _
  refine own_back (fun t k => XS.istoreN X0.here hx rfl (hb hby at_7) rfl (l' := #[.val (.int p1), .val (.int ((p1 &&& (2147483647 : Int32)) % (6 : Int32))), .unset, .unset]) rfl k) ?_
  show OwnGo p e below (s₁.setTop (mkF m 8 #[.val (.int p1), .val (.int ((p1 &&& (2147483647 : Int32)) % (6 : Int32))), .unset, .unset] [])) _
  obtain ⟨kk, hkk⟩ : ∃ z : Int32, z = ((p1 &&& (2147483647 : Int32)) % (6 : Int32)) := ⟨_, rfl⟩
  rw [← hkk]
  show OwnGo p e below (s₁.setTop (mkF m 8 #[.val (.int p1), .val (.int kk), .unset, .unset] [])) _
  refine own_back (fun t k => XS.iloadN X0.here hx rfl (hb hby at_8) rfl k) ?_
  show OwnGo p e below (s₁.setTop (mkF m 9 #[.val (.int p1), .val (.int kk), .unset, .unset] [(.int kk)])) _
  by_cases hp116 : kk = 0
  · obtain ⟨_, _, ⟨T117, L117, k117, n117⟩, -, X117, ⟨Lc117, hQ117, l117, y117, z117⟩, st117⟩ := Jvm.LawKit.callS X0 hx (y := (⟨"com/example/lease/lease/JobStatusIsStoppedPinLaw", "pick", "(I)Lcom/example/lease/lease/JobStatus;"⟩ : MethodName)) hown (mvT hZ (hw _ (List.mem_of_getElem? (i := 1) rfl))) (mvT hZ (hw _ (List.mem_of_getElem? (i := 2) rfl))) (mvT hZ (hw _ (List.mem_of_getElem? (i := 3) rfl))) (mvT hZ (hw _ (List.mem_of_getElem? (i := 4) rfl))) (by decide) (own_backN (W := 0) (rm_pick l Z a0 hw [] kk wRUNNING wCOMPLETED wCOMPLETED_WITH_ERRORS wFAILED wSTOPPING wSTOPPED h0 n0 Z0 SRUNNING SCOMPLETED SCOMPLETED_WITH_ERRORS SFAILED SSTOPPING SSTOPPED) hZ (hw _ (List.mem_of_getElem? (i := 4) rfl)) (hw _ (List.mem_of_getElem? (i := 3) rfl)) (by decide) (by decide)) (g := (mkF m 9 #[.val (.int p1), .val (.int kk), .unset, .unset] [(.int kk)])) rfl (by rw [hml]; rfl) (argsL := [(.int kk)]) (rest := []) (lenOf lw_pd0 rfl) rfl (by show 2 * 0 + _ ≤ _; exact Nat.le_of_eq rfl) (hb hby at_9) (fun _ _ => ⟨rfl, e0, Nat.le_of_ble_eq_true rfl, Nat.le_of_ble_eq_true rfl⟩)
    dsimp only [Pt.U, Pt.locs, Pt.cells, Pt.slots] at X117 l117 y117 z117 st117 hQ117
    subst l117 y117 z117
    rw [if_pos hp116] at hQ117
    obtain ⟨rfl, N117q, hh117⟩ := hQ117
    refine own_back st117 ?_
    have N117 := Fr.app N0 N117q
    show OwnGo p e below (T117.setTop (mkF m 12 #[.val (.int p1), .val (.int kk), .unset, .unset] [(.ref wRUNNING)])) _
    refine own_back (fun t k => XS.astoreN X117.here hx rfl (hb hby at_12) rfl rfl (l' := #[.val (.int p1), .val (.int kk), .val (.ref wRUNNING), .unset]) rfl k) ?_
    show OwnGo p e below (T117.setTop (mkF m 13 #[.val (.int p1), .val (.int kk), .val (.ref wRUNNING), .unset] [])) _
    refine own_back (fun t k => XS.iloadN X117.here hx rfl (hb hby at_13) rfl k) ?_
    show OwnGo p e below (T117.setTop (mkF m 14 #[.val (.int p1), .val (.int kk), .val (.ref wRUNNING), .unset] [(.int kk)])) _
    refine own_back (fun t k => XS.iconst X117.here hx rfl (hb hby at_14) k) ?_
    show OwnGo p e below (T117.setTop (mkF m 15 #[.val (.int p1), .val (.int kk), .val (.ref wRUNNING), .unset] [(.int (4 : Int32)), (.int kk)])) _
    refine own_back (fun t k => XS.icmpNo X117.here hx rfl (hb hby at_15) rfl (Jvm.Free.XT.ii_eq_f (by rw [hp116]; decide)) k) ?_
    show OwnGo p e below (T117.setTop (mkF m 18 #[.val (.int p1), .val (.int kk), .val (.ref wRUNNING), .unset] [])) _
    refine own_back (fun t k => XS.iloadN X117.here hx rfl (hb hby at_18) rfl k) ?_
    show OwnGo p e below (T117.setTop (mkF m 19 #[.val (.int p1), .val (.int kk), .val (.ref wRUNNING), .unset] [(.int kk)])) _
    refine own_back (fun t k => XS.iconst X117.here hx rfl (hb hby at_19) k) ?_
    show OwnGo p e below (T117.setTop (mkF m 20 #[.val (.int p1), .val (.int kk), .val (.ref wRUNNING), .unset] [(.int (5 : Int32)), (.int kk)])) _
    refine own_back (fun t k => XS.icmpYes X117.here hx rfl (pc0 := 20) (pc' := 27) rfl (hb hby at_20) rfl (Jvm.Free.XT.ii_ne_t (by rw [hp116]; decide)) (by decide) (by decide) k) ?_
    show OwnGo p e below (T117.setTop (mkF m 27 #[.val (.int p1), .val (.int kk), .val (.ref wRUNNING), .unset] [])) _
    refine own_back (fun t k => XS.iconst X117.here hx rfl (hb hby at_27) k) ?_
    show OwnGo p e below (T117.setTop (mkF m 28 #[.val (.int p1), .val (.int kk), .val (.ref wRUNNING), .unset] [(.int (0 : Int32))])) _
    refine own_back (fun t k => XS.istoreN X117.here hx rfl (hb hby at_28) rfl (l' := #[.val (.int p1), .val (.int kk), .val (.ref wRUNNING), .val (.int (0 : Int32))]) rfl k) ?_
    show OwnGo p e below (T117.setTop (mkF m 29 #[.val (.int p1), .val (.int kk), .val (.ref wRUNNING), .val (.int (0 : Int32))] [])) _
    refine own_back (fun t k => XS.aloadN X117.here hx rfl (hb hby at_29) rfl rfl k) ?_
    show OwnGo p e below (T117.setTop (mkF m 30 #[.val (.int p1), .val (.int kk), .val (.ref wRUNNING), .val (.int (0 : Int32))] [(.ref wRUNNING)])) _
    obtain ⟨cq118, kq118, q118a, q118b, q118c⟩ := isOf hZ hh117 ERUNNING
    obtain ⟨_, _, ⟨T118, L118, k118, n118⟩, -, X118, ⟨Lc118, hQ118, l118, y118, z118⟩, st118⟩ := X117.virtualBack hx (y := (⟨"com/example/lease/lease/JobStatus", "isStopped", "()Z"⟩ : MethodName)) (z := (⟨"com/example/lease/lease/JobStatus", "isStopped", "()Z"⟩ : MethodName)) hown (mvT hZ (hw _ (List.mem_of_getElem? (i := 8) rfl))) (mvT hZ (hw _ (List.mem_of_getElem? (i := 9) rfl))) (notFace_of_selects (args := #[]) (mvT hZ (hw _ (List.mem_of_getElem? (i := 11) rfl)))) (mvT hZ (hw _ (List.mem_of_getElem? (i := 11) rfl))) (mvT hZ (hw _ (List.mem_of_getElem? (i := 10) rfl))) (by decide) (own_backN (W := 0) (rm_is l Z a0 hw [] wRUNNING wSTOPPING wSTOPPED h0 n0 Z0 SSTOPPING SSTOPPED) hZ (hw _ (List.mem_of_getElem? (i := 12) rfl)) (hw _ (List.mem_of_getElem? (i := 6) rfl)) (by decide) (by decide)) q118a q118c (g := (mkF m 30 #[.val (.int p1), .val (.int kk), .val (.ref wRUNNING), .val (.int (0 : Int32))] [(.ref wRUNNING)])) rfl (by rw [hml]; rfl) (Steps.refl _) (argsL := []) (rest := []) (lenOf lw_pd1 rfl) rfl (by show 2 * 0 + _ ≤ _; exact Nat.le_of_eq rfl) (hb hby at_30) (fun _ _ => ⟨rfl, hh117, Nat.le_of_ble_eq_true rfl, Nat.le_of_ble_eq_true rfl⟩)
    dsimp only [Pt.U, Pt.locs, Pt.cells, Pt.slots] at X118 l118 y118 z118 st118 hQ118
    subst l118 y118 z118
    rw [if_neg (fun q => q.elim nRUNNING1 nRUNNING2)] at hQ118
    obtain ⟨rfl, N118q, hh118⟩ := hQ118
    refine own_seq st118 ?_
    have N118 := Fr.app N117 N118q
    show OwnGo p e below (T118.setTop (mkF m 33 #[.val (.int p1), .val (.int kk), .val (.ref wRUNNING), .val (.int (0 : Int32))] [(.int (0 : Int32))])) _
    refine own_back (fun t k => XS.iloadN X118.here hx rfl (hb hby at_33) rfl k) ?_
    show OwnGo p e below (T118.setTop (mkF m 34 #[.val (.int p1), .val (.int kk), .val (.ref wRUNNING), .val (.int (0 : Int32))] [(.int (0 : Int32)), (.int (0 : Int32))])) _
    refine own_back (fun t k => XS.icmpNo X118.here hx rfl (hb hby at_34) rfl (Jvm.Free.XT.ii_ne_f (by decide)) k) ?_
    show OwnGo p e below (T118.setTop (mkF m 37 #[.val (.int p1), .val (.int kk), .val (.ref wRUNNING), .val (.int (0 : Int32))] [])) _
    refine own_back (fun t k => XS.iconst X118.here hx rfl (hb hby at_37) k) ?_
    show OwnGo p e below (T118.setTop (mkF m 38 #[.val (.int p1), .val (.int kk), .val (.ref wRUNNING), .val (.int (0 : Int32))] [(.int (1 : Int32))])) _
    refine own_back (fun t k => XS.goto X118.here hx rfl (pc0 := 38) (pc' := 42) rfl (hb hby at_38) (by decide) (by decide) k) ?_
    show OwnGo p e below (T118.setTop (mkF m 42 #[.val (.int p1), .val (.int kk), .val (.ref wRUNNING), .val (.int (0 : Int32))] [(.int (1 : Int32))])) _
    refine own_retN X118 hx Bd.notSynchronized (t := .boolean) (z := (1 : Int32)) Bd.returns (by simp) rfl (hb hby at_42) hh118 (Nat.le_of_ble_eq_true rfl) (Nat.le_of_ble_eq_true rfl) ?_
    exact ⟨rfl, N118⟩
  · by_cases hp119 : kk = 1
    · obtain ⟨_, _, ⟨T120, L120, k120, n120⟩, -, X120, ⟨Lc120, hQ120, l120, y120, z120⟩, st120⟩ := Jvm.LawKit.callS X0 hx (y := (⟨"com/example/lease/lease/JobStatusIsStoppedPinLaw", "pick", "(I)Lcom/example/lease/lease/JobStatus;"⟩ : MethodName)) hown (mvT hZ (hw _ (List.mem_of_getElem? (i := 1) rfl))) (mvT hZ (hw _ (List.mem_of_getElem? (i := 2) rfl))) (mvT hZ (hw _ (List.mem_of_getElem? (i := 3) rfl))) (mvT hZ (hw _ (List.mem_of_getElem? (i := 4) rfl))) (by decide) (own_backN (W := 0) (rm_pick l Z a0 hw [] kk wRUNNING wCOMPLETED wCOMPLETED_WITH_ERRORS wFAILED wSTOPPING wSTOPPED h0 n0 Z0 SRUNNING SCOMPLETED SCOMPLETED_WITH_ERRORS SFAILED SSTOPPING SSTOPPED) hZ (hw _ (List.mem_of_getElem? (i := 4) rfl)) (hw _ (List.mem_of_getElem? (i := 3) rfl)) (by decide) (by decide)) (g := (mkF m 9 #[.val (.int p1), .val (.int kk), .unset, .unset] [(.int kk)])) rfl (by rw [hml]; rfl) (argsL := [(.int kk)]) (rest := []) (lenOf lw_pd0 rfl) rfl (by show 2 * 0 + _ ≤ _; exact Nat.le_of_eq rfl) (hb hby at_9) (fun _ _ => ⟨rfl, e0, Nat.le_of_ble_eq_true rfl, Nat.le_of_ble_eq_true rfl⟩)
      dsimp only [Pt.U, Pt.locs, Pt.cells, Pt.slots] at X120 l120 y120 z120 st120 hQ120
      subst l120 y120 z120
      rw [if_neg hp116, if_pos hp119] at hQ120
      obtain ⟨rfl, N120q, hh120⟩ := hQ120
      refine own_back st120 ?_
      have N120 := Fr.app N0 N120q
      show OwnGo p e below (T120.setTop (mkF m 12 #[.val (.int p1), .val (.int kk), .unset, .unset] [(.ref wCOMPLETED)])) _
      refine own_back (fun t k => XS.astoreN X120.here hx rfl (hb hby at_12) rfl rfl (l' := #[.val (.int p1), .val (.int kk), .val (.ref wCOMPLETED), .unset]) rfl k) ?_
      show OwnGo p e below (T120.setTop (mkF m 13 #[.val (.int p1), .val (.int kk), .val (.ref wCOMPLETED), .unset] [])) _
      refine own_back (fun t k => XS.iloadN X120.here hx rfl (hb hby at_13) rfl k) ?_
      show OwnGo p e below (T120.setTop (mkF m 14 #[.val (.int p1), .val (.int kk), .val (.ref wCOMPLETED), .unset] [(.int kk)])) _
      refine own_back (fun t k => XS.iconst X120.here hx rfl (hb hby at_14) k) ?_
      show OwnGo p e below (T120.setTop (mkF m 15 #[.val (.int p1), .val (.int kk), .val (.ref wCOMPLETED), .unset] [(.int (4 : Int32)), (.int kk)])) _
      refine own_back (fun t k => XS.icmpNo X120.here hx rfl (hb hby at_15) rfl (Jvm.Free.XT.ii_eq_f (by rw [hp119]; decide)) k) ?_
      show OwnGo p e below (T120.setTop (mkF m 18 #[.val (.int p1), .val (.int kk), .val (.ref wCOMPLETED), .unset] [])) _
      refine own_back (fun t k => XS.iloadN X120.here hx rfl (hb hby at_18) rfl k) ?_
      show OwnGo p e below (T120.setTop (mkF m 19 #[.val (.int p1), .val (.int kk), .val (.ref wCOMPLETED), .unset] [(.int kk)])) _
      refine own_back (fun t k => XS.iconst X120.here hx rfl (hb hby at_19) k) ?_
      show OwnGo p e below (T120.setTop (mkF m 20 #[.val (.int p1), .val (.int kk), .val (.ref wCOMPLETED), .unset] [(.int (5 : Int32)), (.int kk)])) _
      refine own_back (fun t k => XS.icmpYes X120.here hx rfl (pc0 := 20) (pc' := 27) rfl (hb hby at_20) rfl (Jvm.Free.XT.ii_ne_t (by rw [hp119]; decide)) (by decide) (by decide) k) ?_
      show OwnGo p e below (T120.setTop (mkF m 27 #[.val (.int p1), .val (.int kk), .val (.ref wCOMPLETED), .unset] [])) _
      refine own_back (fun t k => XS.iconst X120.here hx rfl (hb hby at_27) k) ?_
      show OwnGo p e below (T120.setTop (mkF m 28 #[.val (.int p1), .val (.int kk), .val (.ref wCOMPLETED), .unset] [(.int (0 : Int32))])) _
      refine own_back (fun t k => XS.istoreN X120.here hx rfl (hb hby at_28) rfl (l' := #[.val (.int p1), .val (.int kk), .val (.ref wCOMPLETED), .val (.int (0 : Int32))]) rfl k) ?_
      show OwnGo p e below (T120.setTop (mkF m 29 #[.val (.int p1), .val (.int kk), .val (.ref wCOMPLETED), .val (.int (0 : Int32))] [])) _
      refine own_back (fun t k => XS.aloadN X120.here hx rfl (hb hby at_29) rfl rfl k) ?_
      show OwnGo p e below (T120.setTop (mkF m 30 #[.val (.int p1), .val (.int kk), .val (.ref wCOMPLETED), .val (.int (0 : Int32))] [(.ref wCOMPLETED)])) _
      obtain ⟨cq121, kq121, q121a, q121b, q121c⟩ := isOf hZ hh120 ECOMPLETED
      obtain ⟨_, _, ⟨T121, L121, k121, n121⟩, -, X121, ⟨Lc121, hQ121, l121, y121, z121⟩, st121⟩ := X120.virtualBack hx (y := (⟨"com/example/lease/lease/JobStatus", "isStopped", "()Z"⟩ : MethodName)) (z := (⟨"com/example/lease/lease/JobStatus", "isStopped", "()Z"⟩ : MethodName)) hown (mvT hZ (hw _ (List.mem_of_getElem? (i := 8) rfl))) (mvT hZ (hw _ (List.mem_of_getElem? (i := 9) rfl))) (notFace_of_selects (args := #[]) (mvT hZ (hw _ (List.mem_of_getElem? (i := 11) rfl)))) (mvT hZ (hw _ (List.mem_of_getElem? (i := 11) rfl))) (mvT hZ (hw _ (List.mem_of_getElem? (i := 10) rfl))) (by decide) (own_backN (W := 0) (rm_is l Z a0 hw [] wCOMPLETED wSTOPPING wSTOPPED h0 n0 Z0 SSTOPPING SSTOPPED) hZ (hw _ (List.mem_of_getElem? (i := 12) rfl)) (hw _ (List.mem_of_getElem? (i := 6) rfl)) (by decide) (by decide)) q121a q121c (g := (mkF m 30 #[.val (.int p1), .val (.int kk), .val (.ref wCOMPLETED), .val (.int (0 : Int32))] [(.ref wCOMPLETED)])) rfl (by rw [hml]; rfl) (Steps.refl _) (argsL := []) (rest := []) (lenOf lw_pd1 rfl) rfl (by show 2 * 0 + _ ≤ _; exact Nat.le_of_eq rfl) (hb hby at_30) (fun _ _ => ⟨rfl, hh120, Nat.le_of_ble_eq_true rfl, Nat.le_of_ble_eq_true rfl⟩)
      dsimp only [Pt.U, Pt.locs, Pt.cells, Pt.slots] at X121 l121 y121 z121 st121 hQ121
      subst l121 y121 z121
      rw [if_neg (fun q => q.elim nCOMPLETED1 nCOMPLETED2)] at hQ121
      obtain ⟨rfl, N121q, hh121⟩ := hQ121
      refine own_seq st121 ?_
      have N121 := Fr.app N120 N121q
      show OwnGo p e below (T121.setTop (mkF m 33 #[.val (.int p1), .val (.int kk), .val (.ref wCOMPLETED), .val (.int (0 : Int32))] [(.int (0 : Int32))])) _
      refine own_back (fun t k => XS.iloadN X121.here hx rfl (hb hby at_33) rfl k) ?_
      show OwnGo p e below (T121.setTop (mkF m 34 #[.val (.int p1), .val (.int kk), .val (.ref wCOMPLETED), .val (.int (0 : Int32))] [(.int (0 : Int32)), (.int (0 : Int32))])) _
      refine own_back (fun t k => XS.icmpNo X121.here hx rfl (hb hby at_34) rfl (Jvm.Free.XT.ii_ne_f (by decide)) k) ?_
      show OwnGo p e below (T121.setTop (mkF m 37 #[.val (.int p1), .val (.int kk), .val (.ref wCOMPLETED), .val (.int (0 : Int32))] [])) _
      refine own_back (fun t k => XS.iconst X121.here hx rfl (hb hby at_37) k) ?_
      show OwnGo p e below (T121.setTop (mkF m 38 #[.val (.int p1), .val (.int kk), .val (.ref wCOMPLETED), .val (.int (0 : Int32))] [(.int (1 : Int32))])) _
      refine own_back (fun t k => XS.goto X121.here hx rfl (pc0 := 38) (pc' := 42) rfl (hb hby at_38) (by decide) (by decide) k) ?_
      show OwnGo p e below (T121.setTop (mkF m 42 #[.val (.int p1), .val (.int kk), .val (.ref wCOMPLETED), .val (.int (0 : Int32))] [(.int (1 : Int32))])) _
      refine own_retN X121 hx Bd.notSynchronized (t := .boolean) (z := (1 : Int32)) Bd.returns (by simp) rfl (hb hby at_42) hh121 (Nat.le_of_ble_eq_true rfl) (Nat.le_of_ble_eq_true rfl) ?_
      exact ⟨rfl, N121⟩
    · by_cases hp122 : kk = 2
      · obtain ⟨_, _, ⟨T123, L123, k123, n123⟩, -, X123, ⟨Lc123, hQ123, l123, y123, z123⟩, st123⟩ := Jvm.LawKit.callS X0 hx (y := (⟨"com/example/lease/lease/JobStatusIsStoppedPinLaw", "pick", "(I)Lcom/example/lease/lease/JobStatus;"⟩ : MethodName)) hown (mvT hZ (hw _ (List.mem_of_getElem? (i := 1) rfl))) (mvT hZ (hw _ (List.mem_of_getElem? (i := 2) rfl))) (mvT hZ (hw _ (List.mem_of_getElem? (i := 3) rfl))) (mvT hZ (hw _ (List.mem_of_getElem? (i := 4) rfl))) (by decide) (own_backN (W := 0) (rm_pick l Z a0 hw [] kk wRUNNING wCOMPLETED wCOMPLETED_WITH_ERRORS wFAILED wSTOPPING wSTOPPED h0 n0 Z0 SRUNNING SCOMPLETED SCOMPLETED_WITH_ERRORS SFAILED SSTOPPING SSTOPPED) hZ (hw _ (List.mem_of_getElem? (i := 4) rfl)) (hw _ (List.mem_of_getElem? (i := 3) rfl)) (by decide) (by decide)) (g := (mkF m 9 #[.val (.int p1), .val (.int kk), .unset, .unset] [(.int kk)])) rfl (by rw [hml]; rfl) (argsL := [(.int kk)]) (rest := []) (lenOf lw_pd0 rfl) rfl (by show 2 * 0 + _ ≤ _; exact Nat.le_of_eq rfl) (hb hby at_9) (fun _ _ => ⟨rfl, e0, Nat.le_of_ble_eq_true rfl, Nat.le_of_ble_eq_true rfl⟩)
        dsimp only [Pt.U, Pt.locs, Pt.cells, Pt.slots] at X123 l123 y123 z123 st123 hQ123
        subst l123 y123 z123
        rw [if_neg hp116, if_neg hp119, if_pos hp122] at hQ123
        obtain ⟨rfl, N123q, hh123⟩ := hQ123
        refine own_back st123 ?_
        have N123 := Fr.app N0 N123q
        show OwnGo p e below (T123.setTop (mkF m 12 #[.val (.int p1), .val (.int kk), .unset, .unset] [(.ref wCOMPLETED_WITH_ERRORS)])) _
        refine own_back (fun t k => XS.astoreN X123.here hx rfl (hb hby at_12) rfl rfl (l' := #[.val (.int p1), .val (.int kk), .val (.ref wCOMPLETED_WITH_ERRORS), .unset]) rfl k) ?_
        show OwnGo p e below (T123.setTop (mkF m 13 #[.val (.int p1), .val (.int kk), .val (.ref wCOMPLETED_WITH_ERRORS), .unset] [])) _
        refine own_back (fun t k => XS.iloadN X123.here hx rfl (hb hby at_13) rfl k) ?_
        show OwnGo p e below (T123.setTop (mkF m 14 #[.val (.int p1), .val (.int kk), .val (.ref wCOMPLETED_WITH_ERRORS), .unset] [(.int kk)])) _
        refine own_back (fun t k => XS.iconst X123.here hx rfl (hb hby at_14) k) ?_
        show OwnGo p e below (T123.setTop (mkF m 15 #[.val (.int p1), .val (.int kk), .val (.ref wCOMPLETED_WITH_ERRORS), .unset] [(.int (4 : Int32)), (.int kk)])) _
        refine own_back (fun t k => XS.icmpNo X123.here hx rfl (hb hby at_15) rfl (Jvm.Free.XT.ii_eq_f (by rw [hp122]; decide)) k) ?_
        show OwnGo p e below (T123.setTop (mkF m 18 #[.val (.int p1), .val (.int kk), .val (.ref wCOMPLETED_WITH_ERRORS), .unset] [])) _
        refine own_back (fun t k => XS.iloadN X123.here hx rfl (hb hby at_18) rfl k) ?_
        show OwnGo p e below (T123.setTop (mkF m 19 #[.val (.int p1), .val (.int kk), .val (.ref wCOMPLETED_WITH_ERRORS), .unset] [(.int kk)])) _
        refine own_back (fun t k => XS.iconst X123.here hx rfl (hb hby at_19) k) ?_
        show OwnGo p e below (T123.setTop (mkF m 20 #[.val (.int p1), .val (.int kk), .val (.ref wCOMPLETED_WITH_ERRORS), .unset] [(.int (5 : Int32)), (.int kk)])) _
        refine own_back (fun t k => XS.icmpYes X123.here hx rfl (pc0 := 20) (pc' := 27) rfl (hb hby at_20) rfl (Jvm.Free.XT.ii_ne_t (by rw [hp122]; decide)) (by decide) (by decide) k) ?_
        show OwnGo p e below (T123.setTop (mkF m 27 #[.val (.int p1), .val (.int kk), .val (.ref wCOMPLETED_WITH_ERRORS), .unset] [])) _
        refine own_back (fun t k => XS.iconst X123.here hx rfl (hb hby at_27) k) ?_
        show OwnGo p e below (T123.setTop (mkF m 28 #[.val (.int p1), .val (.int kk), .val (.ref wCOMPLETED_WITH_ERRORS), .unset] [(.int (0 : Int32))])) _
        refine own_back (fun t k => XS.istoreN X123.here hx rfl (hb hby at_28) rfl (l' := #[.val (.int p1), .val (.int kk), .val (.ref wCOMPLETED_WITH_ERRORS), .val (.int (0 : Int32))]) rfl k) ?_
        show OwnGo p e below (T123.setTop (mkF m 29 #[.val (.int p1), .val (.int kk), .val (.ref wCOMPLETED_WITH_ERRORS), .val (.int (0 : Int32))] [])) _
        refine own_back (fun t k => XS.aloadN X123.here hx rfl (hb hby at_29) rfl rfl k) ?_
        show OwnGo p e below (T123.setTop (mkF m 30 #[.val (.int p1), .val (.int kk), .val (.ref wCOMPLETED_WITH_ERRORS), .val (.int (0 : Int32))] [(.ref wCOMPLETED_WITH_ERRORS)])) _
        obtain ⟨cq124, kq124, q124a, q124b, q124c⟩ := isOf hZ hh123 ECOMPLETED_WITH_ERRORS
        obtain ⟨_, _, ⟨T124, L124, k124, n124⟩, -, X124, ⟨Lc124, hQ124, l124, y124, z124⟩, st124⟩ := X123.virtualBack hx (y := (⟨"com/example/lease/lease/JobStatus", "isStopped", "()Z"⟩ : MethodName)) (z := (⟨"com/example/lease/lease/JobStatus", "isStopped", "()Z"⟩ : MethodName)) hown (mvT hZ (hw _ (List.mem_of_getElem? (i := 8) rfl))) (mvT hZ (hw _ (List.mem_of_getElem? (i := 9) rfl))) (notFace_of_selects (args := #[]) (mvT hZ (hw _ (List.mem_of_getElem? (i := 11) rfl)))) (mvT hZ (hw _ (List.mem_of_getElem? (i := 11) rfl))) (mvT hZ (hw _ (List.mem_of_getElem? (i := 10) rfl))) (by decide) (own_backN (W := 0) (rm_is l Z a0 hw [] wCOMPLETED_WITH_ERRORS wSTOPPING wSTOPPED h0 n0 Z0 SSTOPPING SSTOPPED) hZ (hw _ (List.mem_of_getElem? (i := 12) rfl)) (hw _ (List.mem_of_getElem? (i := 6) rfl)) (by decide) (by decide)) q124a q124c (g := (mkF m 30 #[.val (.int p1), .val (.int kk), .val (.ref wCOMPLETED_WITH_ERRORS), .val (.int (0 : Int32))] [(.ref wCOMPLETED_WITH_ERRORS)])) rfl (by rw [hml]; rfl) (Steps.refl _) (argsL := []) (rest := []) (lenOf lw_pd1 rfl) rfl (by show 2 * 0 + _ ≤ _; exact Nat.le_of_eq rfl) (hb hby at_30) (fun _ _ => ⟨rfl, hh123, Nat.le_of_ble_eq_true rfl, Nat.le_of_ble_eq_true rfl⟩)
        dsimp only [Pt.U, Pt.locs, Pt.cells, Pt.slots] at X124 l124 y124 z124 st124 hQ124
        subst l124 y124 z124
        rw [if_neg (fun q => q.elim nCOMPLETED_WITH_ERRORS1 nCOMPLETED_WITH_ERRORS2)] at hQ124
        obtain ⟨rfl, N124q, hh124⟩ := hQ124
        refine own_seq st124 ?_
        have N124 := Fr.app N123 N124q
        show OwnGo p e below (T124.setTop (mkF m 33 #[.val (.int p1), .val (.int kk), .val (.ref wCOMPLETED_WITH_ERRORS), .val (.int (0 : Int32))] [(.int (0 : Int32))])) _
        refine own_back (fun t k => XS.iloadN X124.here hx rfl (hb hby at_33) rfl k) ?_
        show OwnGo p e below (T124.setTop (mkF m 34 #[.val (.int p1), .val (.int kk), .val (.ref wCOMPLETED_WITH_ERRORS), .val (.int (0 : Int32))] [(.int (0 : Int32)), (.int (0 : Int32))])) _
        refine own_back (fun t k => XS.icmpNo X124.here hx rfl (hb hby at_34) rfl (Jvm.Free.XT.ii_ne_f (by decide)) k) ?_
        show OwnGo p e below (T124.setTop (mkF m 37 #[.val (.int p1), .val (.int kk), .val (.ref wCOMPLETED_WITH_ERRORS), .val (.int (0 : Int32))] [])) _
        refine own_back (fun t k => XS.iconst X124.here hx rfl (hb hby at_37) k) ?_
        show OwnGo p e below (T124.setTop (mkF m 38 #[.val (.int p1), .val (.int kk), .val (.ref wCOMPLETED_WITH_ERRORS), .val (.int (0 : Int32))] [(.int (1 : Int32))])) _
        refine own_back (fun t k => XS.goto X124.here hx rfl (pc0 := 38) (pc' := 42) rfl (hb hby at_38) (by decide) (by decide) k) ?_
        show OwnGo p e below (T124.setTop (mkF m 42 #[.val (.int p1), .val (.int kk), .val (.ref wCOMPLETED_WITH_ERRORS), .val (.int (0 : Int32))] [(.int (1 : Int32))])) _
        refine own_retN X124 hx Bd.notSynchronized (t := .boolean) (z := (1 : Int32)) Bd.returns (by simp) rfl (hb hby at_42) hh124 (Nat.le_of_ble_eq_true rfl) (Nat.le_of_ble_eq_true rfl) ?_
        exact ⟨rfl, N124⟩
      · by_cases hp125 : kk = 3
        · obtain ⟨_, _, ⟨T126, L126, k126, n126⟩, -, X126, ⟨Lc126, hQ126, l126, y126, z126⟩, st126⟩ := Jvm.LawKit.callS X0 hx (y := (⟨"com/example/lease/lease/JobStatusIsStoppedPinLaw", "pick", "(I)Lcom/example/lease/lease/JobStatus;"⟩ : MethodName)) hown (mvT hZ (hw _ (List.mem_of_getElem? (i := 1) rfl))) (mvT hZ (hw _ (List.mem_of_getElem? (i := 2) rfl))) (mvT hZ (hw _ (List.mem_of_getElem? (i := 3) rfl))) (mvT hZ (hw _ (List.mem_of_getElem? (i := 4) rfl))) (by decide) (own_backN (W := 0) (rm_pick l Z a0 hw [] kk wRUNNING wCOMPLETED wCOMPLETED_WITH_ERRORS wFAILED wSTOPPING wSTOPPED h0 n0 Z0 SRUNNING SCOMPLETED SCOMPLETED_WITH_ERRORS SFAILED SSTOPPING SSTOPPED) hZ (hw _ (List.mem_of_getElem? (i := 4) rfl)) (hw _ (List.mem_of_getElem? (i := 3) rfl)) (by decide) (by decide)) (g := (mkF m 9 #[.val (.int p1), .val (.int kk), .unset, .unset] [(.int kk)])) rfl (by rw [hml]; rfl) (argsL := [(.int kk)]) (rest := []) (lenOf lw_pd0 rfl) rfl (by show 2 * 0 + _ ≤ _; exact Nat.le_of_eq rfl) (hb hby at_9) (fun _ _ => ⟨rfl, e0, Nat.le_of_ble_eq_true rfl, Nat.le_of_ble_eq_true rfl⟩)
          dsimp only [Pt.U, Pt.locs, Pt.cells, Pt.slots] at X126 l126 y126 z126 st126 hQ126
          subst l126 y126 z126
          rw [if_neg hp116, if_neg hp119, if_neg hp122, if_pos hp125] at hQ126
          obtain ⟨rfl, N126q, hh126⟩ := hQ126
          refine own_back st126 ?_
          have N126 := Fr.app N0 N126q
          show OwnGo p e below (T126.setTop (mkF m 12 #[.val (.int p1), .val (.int kk), .unset, .unset] [(.ref wFAILED)])) _
          refine own_back (fun t k => XS.astoreN X126.here hx rfl (hb hby at_12) rfl rfl (l' := #[.val (.int p1), .val (.int kk), .val (.ref wFAILED), .unset]) rfl k) ?_
          show OwnGo p e below (T126.setTop (mkF m 13 #[.val (.int p1), .val (.int kk), .val (.ref wFAILED), .unset] [])) _
          refine own_back (fun t k => XS.iloadN X126.here hx rfl (hb hby at_13) rfl k) ?_
          show OwnGo p e below (T126.setTop (mkF m 14 #[.val (.int p1), .val (.int kk), .val (.ref wFAILED), .unset] [(.int kk)])) _
          refine own_back (fun t k => XS.iconst X126.here hx rfl (hb hby at_14) k) ?_
          show OwnGo p e below (T126.setTop (mkF m 15 #[.val (.int p1), .val (.int kk), .val (.ref wFAILED), .unset] [(.int (4 : Int32)), (.int kk)])) _
          refine own_back (fun t k => XS.icmpNo X126.here hx rfl (hb hby at_15) rfl (Jvm.Free.XT.ii_eq_f (by rw [hp125]; decide)) k) ?_
          show OwnGo p e below (T126.setTop (mkF m 18 #[.val (.int p1), .val (.int kk), .val (.ref wFAILED), .unset] [])) _
          refine own_back (fun t k => XS.iloadN X126.here hx rfl (hb hby at_18) rfl k) ?_
          show OwnGo p e below (T126.setTop (mkF m 19 #[.val (.int p1), .val (.int kk), .val (.ref wFAILED), .unset] [(.int kk)])) _
          refine own_back (fun t k => XS.iconst X126.here hx rfl (hb hby at_19) k) ?_
          show OwnGo p e below (T126.setTop (mkF m 20 #[.val (.int p1), .val (.int kk), .val (.ref wFAILED), .unset] [(.int (5 : Int32)), (.int kk)])) _
          refine own_back (fun t k => XS.icmpYes X126.here hx rfl (pc0 := 20) (pc' := 27) rfl (hb hby at_20) rfl (Jvm.Free.XT.ii_ne_t (by rw [hp125]; decide)) (by decide) (by decide) k) ?_
          show OwnGo p e below (T126.setTop (mkF m 27 #[.val (.int p1), .val (.int kk), .val (.ref wFAILED), .unset] [])) _
          refine own_back (fun t k => XS.iconst X126.here hx rfl (hb hby at_27) k) ?_
          show OwnGo p e below (T126.setTop (mkF m 28 #[.val (.int p1), .val (.int kk), .val (.ref wFAILED), .unset] [(.int (0 : Int32))])) _
          refine own_back (fun t k => XS.istoreN X126.here hx rfl (hb hby at_28) rfl (l' := #[.val (.int p1), .val (.int kk), .val (.ref wFAILED), .val (.int (0 : Int32))]) rfl k) ?_
          show OwnGo p e below (T126.setTop (mkF m 29 #[.val (.int p1), .val (.int kk), .val (.ref wFAILED), .val (.int (0 : Int32))] [])) _
          refine own_back (fun t k => XS.aloadN X126.here hx rfl (hb hby at_29) rfl rfl k) ?_
          show OwnGo p e below (T126.setTop (mkF m 30 #[.val (.int p1), .val (.int kk), .val (.ref wFAILED), .val (.int (0 : Int32))] [(.ref wFAILED)])) _
          obtain ⟨cq127, kq127, q127a, q127b, q127c⟩ := isOf hZ hh126 EFAILED
          obtain ⟨_, _, ⟨T127, L127, k127, n127⟩, -, X127, ⟨Lc127, hQ127, l127, y127, z127⟩, st127⟩ := X126.virtualBack hx (y := (⟨"com/example/lease/lease/JobStatus", "isStopped", "()Z"⟩ : MethodName)) (z := (⟨"com/example/lease/lease/JobStatus", "isStopped", "()Z"⟩ : MethodName)) hown (mvT hZ (hw _ (List.mem_of_getElem? (i := 8) rfl))) (mvT hZ (hw _ (List.mem_of_getElem? (i := 9) rfl))) (notFace_of_selects (args := #[]) (mvT hZ (hw _ (List.mem_of_getElem? (i := 11) rfl)))) (mvT hZ (hw _ (List.mem_of_getElem? (i := 11) rfl))) (mvT hZ (hw _ (List.mem_of_getElem? (i := 10) rfl))) (by decide) (own_backN (W := 0) (rm_is l Z a0 hw [] wFAILED wSTOPPING wSTOPPED h0 n0 Z0 SSTOPPING SSTOPPED) hZ (hw _ (List.mem_of_getElem? (i := 12) rfl)) (hw _ (List.mem_of_getElem? (i := 6) rfl)) (by decide) (by decide)) q127a q127c (g := (mkF m 30 #[.val (.int p1), .val (.int kk), .val (.ref wFAILED), .val (.int (0 : Int32))] [(.ref wFAILED)])) rfl (by rw [hml]; rfl) (Steps.refl _) (argsL := []) (rest := []) (lenOf lw_pd1 rfl) rfl (by show 2 * 0 + _ ≤ _; exact Nat.le_of_eq rfl) (hb hby at_30) (fun _ _ => ⟨rfl, hh126, Nat.le_of_ble_eq_true rfl, Nat.le_of_ble_eq_true rfl⟩)
          dsimp only [Pt.U, Pt.locs, Pt.cells, Pt.slots] at X127 l127 y127 z127 st127 hQ127
          subst l127 y127 z127
          rw [if_neg (fun q => q.elim nFAILED1 nFAILED2)] at hQ127
          obtain ⟨rfl, N127q, hh127⟩ := hQ127
          refine own_seq st127 ?_
          have N127 := Fr.app N126 N127q
          show OwnGo p e below (T127.setTop (mkF m 33 #[.val (.int p1), .val (.int kk), .val (.ref wFAILED), .val (.int (0 : Int32))] [(.int (0 : Int32))])) _
          refine own_back (fun t k => XS.iloadN X127.here hx rfl (hb hby at_33) rfl k) ?_
          show OwnGo p e below (T127.setTop (mkF m 34 #[.val (.int p1), .val (.int kk), .val (.ref wFAILED), .val (.int (0 : Int32))] [(.int (0 : Int32)), (.int (0 : Int32))])) _
          refine own_back (fun t k => XS.icmpNo X127.here hx rfl (hb hby at_34) rfl (Jvm.Free.XT.ii_ne_f (by decide)) k) ?_
          show OwnGo p e below (T127.setTop (mkF m 37 #[.val (.int p1), .val (.int kk), .val (.ref wFAILED), .val (.int (0 : Int32))] [])) _
          refine own_back (fun t k => XS.iconst X127.here hx rfl (hb hby at_37) k) ?_
          show OwnGo p e below (T127.setTop (mkF m 38 #[.val (.int p1), .val (.int kk), .val (.ref wFAILED), .val (.int (0 : Int32))] [(.int (1 : Int32))])) _
          refine own_back (fun t k => XS.goto X127.here hx rfl (pc0 := 38) (pc' := 42) rfl (hb hby at_38) (by decide) (by decide) k) ?_
          show OwnGo p e below (T127.setTop (mkF m 42 #[.val (.int p1), .val (.int kk), .val (.ref wFAILED), .val (.int (0 : Int32))] [(.int (1 : Int32))])) _
          refine own_retN X127 hx Bd.notSynchronized (t := .boolean) (z := (1 : Int32)) Bd.returns (by simp) rfl (hb hby at_42) hh127 (Nat.le_of_ble_eq_true rfl) (Nat.le_of_ble_eq_true rfl) ?_
          exact ⟨rfl, N127⟩
        · by_cases hp128 : kk = 4
          · obtain ⟨_, _, ⟨T129, L129, k129, n129⟩, -, X129, ⟨Lc129, hQ129, l129, y129, z129⟩, st129⟩ := Jvm.LawKit.callS X0 hx (y := (⟨"com/example/lease/lease/JobStatusIsStoppedPinLaw", "pick", "(I)Lcom/example/lease/lease/JobStatus;"⟩ : MethodName)) hown (mvT hZ (hw _ (List.mem_of_getElem? (i := 1) rfl))) (mvT hZ (hw _ (List.mem_of_getElem? (i := 2) rfl))) (mvT hZ (hw _ (List.mem_of_getElem? (i := 3) rfl))) (mvT hZ (hw _ (List.mem_of_getElem? (i := 4) rfl))) (by decide) (own_backN (W := 0) (rm_pick l Z a0 hw [] kk wRUNNING wCOMPLETED wCOMPLETED_WITH_ERRORS wFAILED wSTOPPING wSTOPPED h0 n0 Z0 SRUNNING SCOMPLETED SCOMPLETED_WITH_ERRORS SFAILED SSTOPPING SSTOPPED) hZ (hw _ (List.mem_of_getElem? (i := 4) rfl)) (hw _ (List.mem_of_getElem? (i := 3) rfl)) (by decide) (by decide)) (g := (mkF m 9 #[.val (.int p1), .val (.int kk), .unset, .unset] [(.int kk)])) rfl (by rw [hml]; rfl) (argsL := [(.int kk)]) (rest := []) (lenOf lw_pd0 rfl) rfl (by show 2 * 0 + _ ≤ _; exact Nat.le_of_eq rfl) (hb hby at_9) (fun _ _ => ⟨rfl, e0, Nat.le_of_ble_eq_true rfl, Nat.le_of_ble_eq_true rfl⟩)
            dsimp only [Pt.U, Pt.locs, Pt.cells, Pt.slots] at X129 l129 y129 z129 st129 hQ129
            subst l129 y129 z129
            rw [if_neg hp116, if_neg hp119, if_neg hp122, if_neg hp125, if_pos hp128] at hQ129
            obtain ⟨rfl, N129q, hh129⟩ := hQ129
            refine own_back st129 ?_
            have N129 := Fr.app N0 N129q
            show OwnGo p e below (T129.setTop (mkF m 12 #[.val (.int p1), .val (.int kk), .unset, .unset] [(.ref wSTOPPING)])) _
            refine own_back (fun t k => XS.astoreN X129.here hx rfl (hb hby at_12) rfl rfl (l' := #[.val (.int p1), .val (.int kk), .val (.ref wSTOPPING), .unset]) rfl k) ?_
            show OwnGo p e below (T129.setTop (mkF m 13 #[.val (.int p1), .val (.int kk), .val (.ref wSTOPPING), .unset] [])) _
            refine own_back (fun t k => XS.iloadN X129.here hx rfl (hb hby at_13) rfl k) ?_
            show OwnGo p e below (T129.setTop (mkF m 14 #[.val (.int p1), .val (.int kk), .val (.ref wSTOPPING), .unset] [(.int kk)])) _
            refine own_back (fun t k => XS.iconst X129.here hx rfl (hb hby at_14) k) ?_
            show OwnGo p e below (T129.setTop (mkF m 15 #[.val (.int p1), .val (.int kk), .val (.ref wSTOPPING), .unset] [(.int (4 : Int32)), (.int kk)])) _
            refine own_back (fun t k => XS.icmpYes X129.here hx rfl (pc0 := 15) (pc' := 23) rfl (hb hby at_15) rfl (Jvm.Free.XT.ii_eq_t hp128) (by decide) (by decide) k) ?_
            show OwnGo p e below (T129.setTop (mkF m 23 #[.val (.int p1), .val (.int kk), .val (.ref wSTOPPING), .unset] [])) _
            refine own_back (fun t k => XS.iconst X129.here hx rfl (hb hby at_23) k) ?_
            show OwnGo p e below (T129.setTop (mkF m 24 #[.val (.int p1), .val (.int kk), .val (.ref wSTOPPING), .unset] [(.int (1 : Int32))])) _
            refine own_back (fun t k => XS.goto X129.here hx rfl (pc0 := 24) (pc' := 28) rfl (hb hby at_24) (by decide) (by decide) k) ?_
            show OwnGo p e below (T129.setTop (mkF m 28 #[.val (.int p1), .val (.int kk), .val (.ref wSTOPPING), .unset] [(.int (1 : Int32))])) _
            refine own_back (fun t k => XS.istoreN X129.here hx rfl (hb hby at_28) rfl (l' := #[.val (.int p1), .val (.int kk), .val (.ref wSTOPPING), .val (.int (1 : Int32))]) rfl k) ?_
            show OwnGo p e below (T129.setTop (mkF m 29 #[.val (.int p1), .val (.int kk), .val (.ref wSTOPPING), .val (.int (1 : Int32))] [])) _
            refine own_back (fun t k => XS.aloadN X129.here hx rfl (hb hby at_29) rfl rfl k) ?_
            show OwnGo p e below (T129.setTop (mkF m 30 #[.val (.int p1), .val (.int kk), .val (.ref wSTOPPING), .val (.int (1 : Int32))] [(.ref wSTOPPING)])) _
            obtain ⟨cq130, kq130, q130a, q130b, q130c⟩ := isOf hZ hh129 ESTOPPING
            obtain ⟨_, _, ⟨T130, L130, k130, n130⟩, -, X130, ⟨Lc130, hQ130, l130, y130, z130⟩, st130⟩ := X129.virtualBack hx (y := (⟨"com/example/lease/lease/JobStatus", "isStopped", "()Z"⟩ : MethodName)) (z := (⟨"com/example/lease/lease/JobStatus", "isStopped", "()Z"⟩ : MethodName)) hown (mvT hZ (hw _ (List.mem_of_getElem? (i := 8) rfl))) (mvT hZ (hw _ (List.mem_of_getElem? (i := 9) rfl))) (notFace_of_selects (args := #[]) (mvT hZ (hw _ (List.mem_of_getElem? (i := 11) rfl)))) (mvT hZ (hw _ (List.mem_of_getElem? (i := 11) rfl))) (mvT hZ (hw _ (List.mem_of_getElem? (i := 10) rfl))) (by decide) (own_backN (W := 0) (rm_is l Z a0 hw [] wSTOPPING wSTOPPING wSTOPPED h0 n0 Z0 SSTOPPING SSTOPPED) hZ (hw _ (List.mem_of_getElem? (i := 12) rfl)) (hw _ (List.mem_of_getElem? (i := 6) rfl)) (by decide) (by decide)) q130a q130c (g := (mkF m 30 #[.val (.int p1), .val (.int kk), .val (.ref wSTOPPING), .val (.int (1 : Int32))] [(.ref wSTOPPING)])) rfl (by rw [hml]; rfl) (Steps.refl _) (argsL := []) (rest := []) (lenOf lw_pd1 rfl) rfl (by show 2 * 0 + _ ≤ _; exact Nat.le_of_eq rfl) (hb hby at_30) (fun _ _ => ⟨rfl, hh129, Nat.le_of_ble_eq_true rfl, Nat.le_of_ble_eq_true rfl⟩)
            dsimp only [Pt.U, Pt.locs, Pt.cells, Pt.slots] at X130 l130 y130 z130 st130 hQ130
            subst l130 y130 z130
            rw [if_pos (Or.inl rfl)] at hQ130
            obtain ⟨rfl, N130q, hh130⟩ := hQ130
            refine own_seq st130 ?_
            have N130 := Fr.app N129 N130q
            show OwnGo p e below (T130.setTop (mkF m 33 #[.val (.int p1), .val (.int kk), .val (.ref wSTOPPING), .val (.int (1 : Int32))] [(.int (1 : Int32))])) _
            refine own_back (fun t k => XS.iloadN X130.here hx rfl (hb hby at_33) rfl k) ?_
            show OwnGo p e below (T130.setTop (mkF m 34 #[.val (.int p1), .val (.int kk), .val (.ref wSTOPPING), .val (.int (1 : Int32))] [(.int (1 : Int32)), (.int (1 : Int32))])) _
            refine own_back (fun t k => XS.icmpNo X130.here hx rfl (hb hby at_34) rfl (Jvm.Free.XT.ii_ne_f (by decide)) k) ?_
            show OwnGo p e below (T130.setTop (mkF m 37 #[.val (.int p1), .val (.int kk), .val (.ref wSTOPPING), .val (.int (1 : Int32))] [])) _
            refine own_back (fun t k => XS.iconst X130.here hx rfl (hb hby at_37) k) ?_
            show OwnGo p e below (T130.setTop (mkF m 38 #[.val (.int p1), .val (.int kk), .val (.ref wSTOPPING), .val (.int (1 : Int32))] [(.int (1 : Int32))])) _
            refine own_back (fun t k => XS.goto X130.here hx rfl (pc0 := 38) (pc' := 42) rfl (hb hby at_38) (by decide) (by decide) k) ?_
            show OwnGo p e below (T130.setTop (mkF m 42 #[.val (.int p1), .val (.int kk), .val (.ref wSTOPPING), .val (.int (1 : Int32))] [(.int (1 : Int32))])) _
            refine own_retN X130 hx Bd.notSynchronized (t := .boolean) (z := (1 : Int32)) Bd.returns (by simp) rfl (hb hby at_42) hh130 (Nat.le_of_ble_eq_true rfl) (Nat.le_of_ble_eq_true rfl) ?_
            exact ⟨rfl, N130⟩
          · obtain ⟨_, _, ⟨T131, L131, k131, n131⟩, -, X131, ⟨Lc131, hQ131, l131, y131, z131⟩, st131⟩ := Jvm.LawKit.callS X0 hx (y := (⟨"com/example/lease/lease/JobStatusIsStoppedPinLaw", "pick", "(I)Lcom/example/lease/lease/JobStatus;"⟩ : MethodName)) hown (mvT hZ (hw _ (List.mem_of_getElem? (i := 1) rfl))) (mvT hZ (hw _ (List.mem_of_getElem? (i := 2) rfl))) (mvT hZ (hw _ (List.mem_of_getElem? (i := 3) rfl))) (mvT hZ (hw _ (List.mem_of_getElem? (i := 4) rfl))) (by decide) (own_backN (W := 0) (rm_pick l Z a0 hw [] kk wRUNNING wCOMPLETED wCOMPLETED_WITH_ERRORS wFAILED wSTOPPING wSTOPPED h0 n0 Z0 SRUNNING SCOMPLETED SCOMPLETED_WITH_ERRORS SFAILED SSTOPPING SSTOPPED) hZ (hw _ (List.mem_of_getElem? (i := 4) rfl)) (hw _ (List.mem_of_getElem? (i := 3) rfl)) (by decide) (by decide)) (g := (mkF m 9 #[.val (.int p1), .val (.int kk), .unset, .unset] [(.int kk)])) rfl (by rw [hml]; rfl) (argsL := [(.int kk)]) (rest := []) (lenOf lw_pd0 rfl) rfl (by show 2 * 0 + _ ≤ _; exact Nat.le_of_eq rfl) (hb hby at_9) (fun _ _ => ⟨rfl, e0, Nat.le_of_ble_eq_true rfl, Nat.le_of_ble_eq_true rfl⟩)
            dsimp only [Pt.U, Pt.locs, Pt.cells, Pt.slots] at X131 l131 y131 z131 st131 hQ131
            subst l131 y131 z131
            rw [if_neg hp116, if_neg hp119, if_neg hp122, if_neg hp125, if_neg hp128] at hQ131
            obtain ⟨rfl, N131q, hh131⟩ := hQ131
            refine own_back st131 ?_
            have N131 := Fr.app N0 N131q
            show OwnGo p e below (T131.setTop (mkF m 12 #[.val (.int p1), .val (.int kk), .unset, .unset] [(.ref wSTOPPED)])) _
            refine own_back (fun t k => XS.astoreN X131.here hx rfl (hb hby at_12) rfl rfl (l' := #[.val (.int p1), .val (.int kk), .val (.ref wSTOPPED), .unset]) rfl k) ?_
            show OwnGo p e below (T131.setTop (mkF m 13 #[.val (.int p1), .val (.int kk), .val (.ref wSTOPPED), .unset] [])) _
            refine own_back (fun t k => XS.iloadN X131.here hx rfl (hb hby at_13) rfl k) ?_
            show OwnGo p e below (T131.setTop (mkF m 14 #[.val (.int p1), .val (.int kk), .val (.ref wSTOPPED), .unset] [(.int kk)])) _
            refine own_back (fun t k => XS.iconst X131.here hx rfl (hb hby at_14) k) ?_
            show OwnGo p e below (T131.setTop (mkF m 15 #[.val (.int p1), .val (.int kk), .val (.ref wSTOPPED), .unset] [(.int (4 : Int32)), (.int kk)])) _
            refine own_back (fun t k => XS.icmpNo X131.here hx rfl (hb hby at_15) rfl (Jvm.Free.XT.ii_eq_f hp128) k) ?_
            show OwnGo p e below (T131.setTop (mkF m 18 #[.val (.int p1), .val (.int kk), .val (.ref wSTOPPED), .unset] [])) _
            refine own_back (fun t k => XS.iloadN X131.here hx rfl (hb hby at_18) rfl k) ?_
            show OwnGo p e below (T131.setTop (mkF m 19 #[.val (.int p1), .val (.int kk), .val (.ref wSTOPPED), .unset] [(.int kk)])) _
            refine own_back (fun t k => XS.iconst X131.here hx rfl (hb hby at_19) k) ?_
            show OwnGo p e below (T131.setTop (mkF m 20 #[.val (.int p1), .val (.int kk), .val (.ref wSTOPPED), .unset] [(.int (5 : Int32)), (.int kk)])) _
            refine own_back (fun t k => XS.icmpNo X131.here hx rfl (hb hby at_20) rfl (Jvm.Free.XT.ii_ne_f (own_r6 p1 kk hkk hp116 hp119 hp122 hp125 hp128)) k) ?_
            show OwnGo p e below (T131.setTop (mkF m 23 #[.val (.int p1), .val (.int kk), .val (.ref wSTOPPED), .unset] [])) _
            refine own_back (fun t k => XS.iconst X131.here hx rfl (hb hby at_23) k) ?_
            show OwnGo p e below (T131.setTop (mkF m 24 #[.val (.int p1), .val (.int kk), .val (.ref wSTOPPED), .unset] [(.int (1 : Int32))])) _
            refine own_back (fun t k => XS.goto X131.here hx rfl (pc0 := 24) (pc' := 28) rfl (hb hby at_24) (by decide) (by decide) k) ?_
            show OwnGo p e below (T131.setTop (mkF m 28 #[.val (.int p1), .val (.int kk), .val (.ref wSTOPPED), .unset] [(.int (1 : Int32))])) _
            refine own_back (fun t k => XS.istoreN X131.here hx rfl (hb hby at_28) rfl (l' := #[.val (.int p1), .val (.int kk), .val (.ref wSTOPPED), .val (.int (1 : Int32))]) rfl k) ?_
            show OwnGo p e below (T131.setTop (mkF m 29 #[.val (.int p1), .val (.int kk), .val (.ref wSTOPPED), .val (.int (1 : Int32))] [])) _
            refine own_back (fun t k => XS.aloadN X131.here hx rfl (hb hby at_29) rfl rfl k) ?_
            show OwnGo p e below (T131.setTop (mkF m 30 #[.val (.int p1), .val (.int kk), .val (.ref wSTOPPED), .val (.int (1 : Int32))] [(.ref wSTOPPED)])) _
            obtain ⟨cq132, kq132, q132a, q132b, q132c⟩ := isOf hZ hh131 ESTOPPED
            obtain ⟨_, _, ⟨T132, L132, k132, n132⟩, -, X132, ⟨Lc132, hQ132, l132, y132, z132⟩, st132⟩ := X131.virtualBack hx (y := (⟨"com/example/lease/lease/JobStatus", "isStopped", "()Z"⟩ : MethodName)) (z := (⟨"com/example/lease/lease/JobStatus", "isStopped", "()Z"⟩ : MethodName)) hown (mvT hZ (hw _ (List.mem_of_getElem? (i := 8) rfl))) (mvT hZ (hw _ (List.mem_of_getElem? (i := 9) rfl))) (notFace_of_selects (args := #[]) (mvT hZ (hw _ (List.mem_of_getElem? (i := 11) rfl)))) (mvT hZ (hw _ (List.mem_of_getElem? (i := 11) rfl))) (mvT hZ (hw _ (List.mem_of_getElem? (i := 10) rfl))) (by decide) (own_backN (W := 0) (rm_is l Z a0 hw [] wSTOPPED wSTOPPING wSTOPPED h0 n0 Z0 SSTOPPING SSTOPPED) hZ (hw _ (List.mem_of_getElem? (i := 12) rfl)) (hw _ (List.mem_of_getElem? (i := 6) rfl)) (by decide) (by decide)) q132a q132c (g := (mkF m 30 #[.val (.int p1), .val (.int kk), .val (.ref wSTOPPED), .val (.int (1 : Int32))] [(.ref wSTOPPED)])) rfl (by rw [hml]; rfl) (Steps.refl _) (argsL := []) (rest := []) (lenOf lw_pd1 rfl) rfl (by show 2 * 0 + _ ≤ _; exact Nat.le_of_eq rfl) (hb hby at_30) (fun _ _ => ⟨rfl, hh131, Nat.le_of_ble_eq_true rfl, Nat.le_of_ble_eq_true rfl⟩)
            dsimp only [Pt.U, Pt.locs, Pt.cells, Pt.slots] at X132 l132 y132 z132 st132 hQ132
            subst l132 y132 z132
            rw [if_pos (Or.inr rfl)] at hQ132
            obtain ⟨rfl, N132q, hh132⟩ := hQ132
            refine own_seq st132 ?_
            have N132 := Fr.app N131 N132q
            show OwnGo p e below (T132.setTop (mkF m 33 #[.val (.int p1), .val (.int kk), .val (.ref wSTOPPED), .val (.int (1 : Int32))] [(.int (1 : Int32))])) _
            refine own_back (fun t k => XS.iloadN X132.here hx rfl (hb hby at_33) rfl k) ?_
            show OwnGo p e below (T132.setTop (mkF m 34 #[.val (.int p1), .val (.int kk), .val (.ref wSTOPPED), .val (.int (1 : Int32))] [(.int (1 : Int32)), (.int (1 : Int32))])) _
            refine own_back (fun t k => XS.icmpNo X132.here hx rfl (hb hby at_34) rfl (Jvm.Free.XT.ii_ne_f (by decide)) k) ?_
            show OwnGo p e below (T132.setTop (mkF m 37 #[.val (.int p1), .val (.int kk), .val (.ref wSTOPPED), .val (.int (1 : Int32))] [])) _
            refine own_back (fun t k => XS.iconst X132.here hx rfl (hb hby at_37) k) ?_
            show OwnGo p e below (T132.setTop (mkF m 38 #[.val (.int p1), .val (.int kk), .val (.ref wSTOPPED), .val (.int (1 : Int32))] [(.int (1 : Int32))])) _
            refine own_back (fun t k => XS.goto X132.here hx rfl (pc0 := 38) (pc' := 42) rfl (hb hby at_38) (by decide) (by decide) k) ?_
            show OwnGo p e below (T132.setTop (mkF m 42 #[.val (.int p1), .val (.int kk), .val (.ref wSTOPPED), .val (.int (1 : Int32))] [(.int (1 : Int32))])) _
            refine own_retN X132 hx Bd.notSynchronized (t := .boolean) (z := (1 : Int32)) Bd.returns (by simp) rfl (hb hby at_42) hh132 (Nat.le_of_ble_eq_true rfl) (Nat.le_of_ble_eq_true rfl) ?_
            exact ⟨rfl, N132⟩
set_option maxRecDepth 65536 in
set_option maxHeartbeats 40000000 in
theorem comes_1 {Post : Tables → Env → Array Value → State → Outcome → State → Prop} (hpost : ∀ tb e args s v u, (limb_1_1.after args s (.returned v) u = true ∧ limb_1_2.after args s (.returned v) u = true ∧ True) → FrameEnd s (.returned v) u (Jvm.fieldLocs frame_1_writes args s ++ Jvm.arrayLocs frame_1_arrays args s ++ Jvm.staticLocs frame_1_statics s) 0 0 → Post tb e args s (.returned v) u) :
    ArmFor flags0 classFile x code maxLocals ret World_1 tables_1 room_1 Calls_1 rest_1 Pre_1 Post := by
  intro l hfl _ _ p e ha hc hk s m args below hf hA hF happ hP
  obtain ⟨hcalls, hrest, hpre⟩ := hP
  obtain ⟨-, -, -, hnamed, -, -, -, hat⟩ := (Spec.applies_iff hf).mp happ
  obtain ⟨hg, hn⟩ := and_e (Cond.before_iff.mp (show (Jvm.Cond.and given_1 narrow_1).before args s = true from hpre))
  obtain ⟨g1, g2⟩ := and_e hg
  obtain ⟨g3, g4⟩ := and_e hn
  obtain ⟨g5, g6⟩ := and_e g4
  obtain ⟨g7, g8⟩ := and_e g6
  obtain ⟨g9, g10⟩ := and_e g8
  obtain ⟨g11, g12⟩ := and_e g10
  obtain ⟨g13, g14⟩ := and_e g12
  obtain ⟨g15, g16⟩ := and_e g14
  obtain ⟨g17, g18⟩ := and_e g16
  obtain ⟨g19, g20⟩ := and_e g18
  obtain ⟨g21, g22⟩ := and_e g20
  obtain ⟨g23, g24⟩ := and_e g22
  obtain ⟨w0, rfl⟩ : ∃ w0 : Value, args = #[w0] := by
    have hs : args.size = 1 := by simpa [Cond.value, given_1] using g1
    obtain ⟨L⟩ := args
    match L, hs with
    | [w0], _ => exact ⟨w0, rfl⟩
  have hw := fun d (hd : d ∈ tables_1) => atoms_spec (ws := Jvm.Cond.code x code maxLocals ret :: tables_1) hat d (List.mem_cons_of_mem _ hd)
  have hfit : Fit s := fun {y c} hc i hi => by
    obtain ⟨ha, rfl⟩ := Array.getElem?_eq_some_iff.mp hc
    have q := List.all_eq_true.mp ((Array.all_eq_true_iff_forall_mem.mp hF) _ (Array.getElem_mem ha)) i (List.mem_range.mpr hi)
    simpa [Array.getElem?_eq_getElem hi] using q
  obtain ⟨i0, ei0⟩ := is_v g2
  obtain rfl : w0 = (.int i0) := Option.some.inj ei0
  obtain ⟨wRUNNING, vRUNNING⟩ := exa_v g3
  have SRUNNING : Sta s s.heap "com/example/lease/lease/JobStatus" "RUNNING" "Lcom/example/lease/lease/JobStatus;" (.ref wRUNNING) := Sta.start vRUNNING (Or.inr ⟨(hw _ (List.mem_of_getElem? (i := 6) rfl)), (hw _ (List.mem_of_getElem? (i := 7) rfl))⟩)
  have ERUNNING : Exa s s.heap wRUNNING "com/example/lease/lease/JobStatus" := Exa.start vRUNNING g3
  have FRUNNING : Fld s s.heap wRUNNING "java/lang/Enum" "ordinal" "I" (.int 0) := Fld.start ((fld_at vRUNNING).symm.trans (own_eqint g7))
  obtain ⟨wCOMPLETED, vCOMPLETED⟩ := exa_v g23
  have SCOMPLETED : Sta s s.heap "com/example/lease/lease/JobStatus" "COMPLETED" "Lcom/example/lease/lease/JobStatus;" (.ref wCOMPLETED) := Sta.start vCOMPLETED (Or.inr ⟨(hw _ (List.mem_of_getElem? (i := 6) rfl)), (hw _ (List.mem_of_getElem? (i := 22) rfl))⟩)
  have ECOMPLETED : Exa s s.heap wCOMPLETED "com/example/lease/lease/JobStatus" := Exa.start vCOMPLETED g23
  have FCOMPLETED : Fld s s.heap wCOMPLETED "java/lang/Enum" "ordinal" "I" (.int 1) := Fld.start ((fld_at vCOMPLETED).symm.trans (own_eqint g24))
  obtain ⟨wCOMPLETED_WITH_ERRORS, vCOMPLETED_WITH_ERRORS⟩ := exa_v g19
  have SCOMPLETED_WITH_ERRORS : Sta s s.heap "com/example/lease/lease/JobStatus" "COMPLETED_WITH_ERRORS" "Lcom/example/lease/lease/JobStatus;" (.ref wCOMPLETED_WITH_ERRORS) := Sta.start vCOMPLETED_WITH_ERRORS (Or.inr ⟨(hw _ (List.mem_of_getElem? (i := 6) rfl)), (hw _ (List.mem_of_getElem? (i := 20) rfl))⟩)
  have ECOMPLETED_WITH_ERRORS : Exa s s.heap wCOMPLETED_WITH_ERRORS "com/example/lease/lease/JobStatus" := Exa.start vCOMPLETED_WITH_ERRORS g19
  have FCOMPLETED_WITH_ERRORS : Fld s s.heap wCOMPLETED_WITH_ERRORS "java/lang/Enum" "ordinal" "I" (.int 2) := Fld.start ((fld_at vCOMPLETED_WITH_ERRORS).symm.trans (own_eqint g21))
  obtain ⟨wFAILED, vFAILED⟩ := exa_v g15
  have SFAILED : Sta s s.heap "com/example/lease/lease/JobStatus" "FAILED" "Lcom/example/lease/lease/JobStatus;" (.ref wFAILED) := Sta.start vFAILED (Or.inr ⟨(hw _ (List.mem_of_getElem? (i := 6) rfl)), (hw _ (List.mem_of_getElem? (i := 18) rfl))⟩)
  have EFAILED : Exa s s.heap wFAILED "com/example/lease/lease/JobStatus" := Exa.start vFAILED g15
  have FFAILED : Fld s s.heap wFAILED "java/lang/Enum" "ordinal" "I" (.int 3) := Fld.start ((fld_at vFAILED).symm.trans (own_eqint g17))
  obtain ⟨wSTOPPING, vSTOPPING⟩ := exa_v g5
  have SSTOPPING : Sta s s.heap "com/example/lease/lease/JobStatus" "STOPPING" "Lcom/example/lease/lease/JobStatus;" (.ref wSTOPPING) := Sta.start vSTOPPING (Or.inr ⟨(hw _ (List.mem_of_getElem? (i := 6) rfl)), (hw _ (List.mem_of_getElem? (i := 14) rfl))⟩)
  have ESTOPPING : Exa s s.heap wSTOPPING "com/example/lease/lease/JobStatus" := Exa.start vSTOPPING g5
  have FSTOPPING : Fld s s.heap wSTOPPING "java/lang/Enum" "ordinal" "I" (.int 4) := Fld.start ((fld_at vSTOPPING).symm.trans (own_eqint g9))
  obtain ⟨wSTOPPED, vSTOPPED⟩ := exa_v g11
  have SSTOPPED : Sta s s.heap "com/example/lease/lease/JobStatus" "STOPPED" "Lcom/example/lease/lease/JobStatus;" (.ref wSTOPPED) := Sta.start vSTOPPED (Or.inr ⟨(hw _ (List.mem_of_getElem? (i := 6) rfl)), (hw _ (List.mem_of_getElem? (i := 16) rfl))⟩)
  have ESTOPPED : Exa s s.heap wSTOPPED "com/example/lease/lease/JobStatus" := Exa.start vSTOPPED g11
  have FSTOPPED : Fld s s.heap wSTOPPED "java/lang/Enum" "ordinal" "I" (.int 5) := Fld.start ((fld_at vSTOPPED).symm.trans (own_eqint g13))
  obtain ⟨n, o, h1, h2, h3, _, L, rfl, ⟨rfl, N⟩, hq⟩ := rm_law l s _ hw tables_1 i0 wRUNNING wCOMPLETED wCOMPLETED_WITH_ERRORS wFAILED wSTOPPING wSTOPPED s.heap s.heap.size (Nat.le_refl _) SRUNNING SCOMPLETED SCOMPLETED_WITH_ERRORS SFAILED SSTOPPING SSTOPPED ERUNNING ECOMPLETED ECOMPLETED_WITH_ERRORS EFAILED ESTOPPING ESTOPPED (Fld.ne FRUNNING FSTOPPING (by decide)) (Fld.ne FRUNNING FSTOPPED (by decide)) (Fld.ne FCOMPLETED FSTOPPING (by decide)) (Fld.ne FCOMPLETED FSTOPPED (by decide)) (Fld.ne FCOMPLETED_WITH_ERRORS FSTOPPING (by decide)) (Fld.ne FCOMPLETED_WITH_ERRORS FSTOPPED (by decide)) (Fld.ne FFAILED FSTOPPING (by decide)) (Fld.ne FFAILED FSTOPPED (by decide)) p e ha hc hk s m _ below hf ((Spec.applies_iff_loose hf).mp happ).1 ⟨rfl, State.Warmed39.refl s, rfl⟩ trivial
  refine ⟨n, _, h1, h2, h3, hpost _ _ _ _ _ _ ⟨Cond.after_iff.mpr rfl, Cond.after_iff.mpr (eq_i res_at (Term.int_eval (1)) rfl), trivial⟩ ⟨hq.1, hq.2.1, (hq.2.2.sift fun y hy => Or.inr (N y hy)).mono (by decide) (by decide)⟩⟩
theorem main_1_1 : Claimed_1_1 := comes_1 fun _ _ _ _ _ _ h hF => ⟨h.1, hF⟩
theorem main_1_2 : Claimed_1_2 := comes_1 fun _ _ _ _ _ _ h hF => ⟨h.2.1, hF⟩
end Jvm.Pilot.@@N@@
namespace Jvm.Pilot.@@N@@
open Jvm Jvm.ClassFile Sem Op Lib Jvm.Free Jvm.Stand Jvm.Pilot.@@N@@.Jvm.D
/-! MADE BY PROGRAM (witnessworld.py) out of the Statement's table words and the real class files: 12 classes; the members and pool entries that the words name. The judged class is class 1, her method 2. -/
namespace start1
open Jvm.ClassFile
def u (s : String) : CpInfo := .utf8 (stringToUtf16 s)
/-- a pool by its gaps: so many unusable entries, then the entry; so many at the end -/
def gap : Nat → List CpInfo → List CpInfo
  | 0, r => r
  | n + 1, r => .unusable :: gap n r
def poolList (es : List (Nat × CpInfo)) (last : Nat) : List CpInfo := es.foldr (fun e r => gap e.1 (e.2 :: r)) (gap last [])
def pool (es : List (Nat × CpInfo)) (last : Nat) : Array CpInfo := ⟨poolList es last⟩
def fileOf (pool : Array CpInfo) (this : Nat) (attrs : Array Attribute := #[]) (ms : Array MethodInfo := #[]) (fl : Nat := 33) (sup : Nat := 0) (ifs : Array Nat := #[]) (fds : Array FieldInfo := #[]) : ClassFile where
  minorVersion := 0
  majorVersion := 65
  constantPool := pool
  accessFlags := fl
  thisClass := this
  superClass := sup
  interfaces := ifs
  fields := fds
  methods := ms
  attributes := attrs
def plain (name : String) (sup : Option ClassId) : Class where
  name := name
  kind := .ordinary
  loader := none
  accessFlags := 33
  super := sup
  interfaces := #[]
  cf := none
  fields := #[]
  methods := #[]
  instanceTypes := #[]
  staticTypes := #[]
  resolved := #[]
  callSites := []
  init := .initialized
  statics := none
  mirror := none

def pool0 : Array CpInfo := pool [(5, u "<init>"), (0, u "()V"), (1, .class_ 10), (1, u "java/lang/Object")] 113

def k0m0 : Method := { name := "<init>", desc := "()V", sig := { parameters := [], returnType := none }, accessFlags := 1, code := none }
/-- java/lang/Object -/
def k0 : Class := { plain "java/lang/Object" none with
  accessFlags := 33
  interfaces := #[]
  cf := some (fileOf pool0 8 #[] #[{ accessFlags := 1, nameIndex := 5, descriptorIndex := 6, attributes := #[] }] 33 0 #[] #[])
  fields := #[]
  methods := #[k0m0]
  instanceTypes := #[]
  staticTypes := #[]
  resolved := Array.replicate 124 none
  statics := none }

def pool1 : Array CpInfo := pool [(2, .class_ 4), (1, u "java/lang/Object"), (0, u "<init>"), (0, u "()V"), (0, .fieldref 8 9), (0, .class_ 10), (0, .nameAndType 11 12), (0, u "com/example/lease/lease/JobStatus"), (0, u "RUNNING"), (0, u "Lcom/example/lease/lease/JobStatus;"), (0, .fieldref 8 14), (0, .nameAndType 15 12), (0, u "COMPLETED"), (0, .fieldref 8 17), (0, .nameAndType 18 12), (0, u "COMPLETED_WITH_ERRORS"), (0, .fieldref 8 20), (0, .nameAndType 21 12), (0, u "FAILED"), (0, .fieldref 8 23), (0, .nameAndType 24 12), (0, u "STOPPING"), (0, .fieldref 8 26), (0, .nameAndType 27 12), (0, u "STOPPED"), (0, .integer 2147483647), (0, .methodref 30 31), (0, .class_ 32), (0, .nameAndType 33 34), (0, u "com/example/lease/lease/JobStatusIsStoppedPinLaw"), (0, u "pick"), (0, u "(I)Lcom/example/lease/lease/JobStatus;"), (0, .methodref 8 36), (0, .nameAndType 37 38), (0, u "isStopped"), (0, u "()Z"), (3, u "law"), (0, u "(I)Z")] 2

def k1m0 : Method := { name := "<init>", desc := "()V", sig := { parameters := [], returnType := none }, accessFlags := 2, code := none }
def k1c1 : Code := { maxStack := 2, maxLocals := 1, code := method_2_code, exceptionTable := #[], attributes := #[] }
def k1m1 : Method := { name := "pick", desc := "(I)Lcom/example/lease/lease/JobStatus;", sig := { parameters := [.int], returnType := some (.object "com/example/lease/lease/JobStatus") }, accessFlags := 10, code := some k1c1 }
def k1c2 : Code := { maxStack := 2, maxLocals := 4, code := code, exceptionTable := #[], attributes := #[] }
def k1m2 : Method := { name := "law", desc := "(I)Z", sig := { parameters := [.int], returnType := some .boolean }, accessFlags := 9, code := some k1c2 }
/-- com/example/lease/lease/JobStatusIsStoppedPinLaw -/
def k1 : Class := { plain "com/example/lease/lease/JobStatusIsStoppedPinLaw" (some 0) with
  accessFlags := 49
  interfaces := #[]
  cf := some (fileOf pool1 30 #[] #[{ accessFlags := 2, nameIndex := 5, descriptorIndex := 6, attributes := #[] }, { accessFlags := 10, nameIndex := 33, descriptorIndex := 34, attributes := #[] }, { accessFlags := 9, nameIndex := 42, descriptorIndex := 43, attributes := #[] }] 49 2 #[] #[])
  fields := #[]
  methods := #[k1m0, k1m1, k1m2]
  instanceTypes := #[]
  staticTypes := #[]
  resolved := Array.replicate 46 none
  statics := none }

def pool2 : Array CpInfo := pool [(1, .class_ 2), (0, u "java/lang/constant/Constable"), (0, .class_ 4), (0, u "java/lang/Object")] 6

/-- java/lang/constant/Constable -/
def k2 : Class := { plain "java/lang/constant/Constable" (some 0) with
  accessFlags := 1537
  interfaces := #[]
  cf := some (fileOf pool2 1 #[] #[] 1537 3 #[] #[])
  fields := #[]
  methods := #[]
  instanceTypes := #[]
  staticTypes := #[]
  resolved := Array.replicate 11 none
  statics := none }

def pool3 : Array CpInfo := pool [(1, .class_ 2), (0, u "java/lang/Comparable"), (0, .class_ 4), (0, u "java/lang/Object")] 7

/-- java/lang/Comparable -/
def k3 : Class := { plain "java/lang/Comparable" (some 0) with
  accessFlags := 1537
  interfaces := #[]
  cf := some (fileOf pool3 1 #[] #[] 1537 3 #[] #[])
  fields := #[]
  methods := #[]
  instanceTypes := #[]
  staticTypes := #[]
  resolved := Array.replicate 12 none
  statics := none }

def pool4 : Array CpInfo := pool [(1, .class_ 2), (0, u "java/io/Serializable"), (0, .class_ 4), (0, u "java/lang/Object")] 2

/-- java/io/Serializable -/
def k4 : Class := { plain "java/io/Serializable" (some 0) with
  accessFlags := 1537
  interfaces := #[]
  cf := some (fileOf pool4 1 #[] #[] 1537 3 #[] #[])
  fields := #[]
  methods := #[]
  instanceTypes := #[]
  staticTypes := #[]
  resolved := Array.replicate 7 none
  statics := none }

def pool5 : Array CpInfo := pool [(2, .class_ 4), (1, u "java/lang/Enum"), (0, u "name"), (0, u "Ljava/lang/String;"), (2, u "ordinal"), (0, u "I"), (1, .class_ 14), (1, u "java/lang/Object"), (4, u "hash"), (86, .class_ 108), (1, u "java/lang/Enum$EnumDesc"), (2, .class_ 112), (0, u "java/lang/constant/Constable"), (0, .class_ 114), (0, u "java/lang/Comparable"), (0, .class_ 116), (0, u "java/io/Serializable")] 87

/-- java/lang/Enum -/
def k5 : Class := { plain "java/lang/Enum" (some 0) with
  accessFlags := 1057
  interfaces := #[2, 3, 4]
  cf := some (fileOf pool5 2 #[.nestMembers #[106]] #[] 1057 12 #[111, 113, 115] #[{ accessFlags := 18, nameIndex := 5, descriptorIndex := 6, attributes := #[] }, { accessFlags := 18, nameIndex := 9, descriptorIndex := 10, attributes := #[] }, { accessFlags := 2, nameIndex := 19, descriptorIndex := 10, attributes := #[] }])
  fields := #[{ name := "name", type := (.object "java/lang/String"), accessFlags := 18, slot := 0, constantValue := 0 }, { name := "ordinal", type := .int, accessFlags := 18, slot := 1, constantValue := 0 }, { name := "hash", type := .int, accessFlags := 2, slot := 2, constantValue := 0 }]
  methods := #[]
  instanceTypes := #[(.object "java/lang/String"), .int, .int]
  staticTypes := #[]
  resolved := Array.replicate 204 none
  statics := none }

def pool6 : Array CpInfo := pool [(1, .class_ 2), (0, u "com/example/lease/lease/JobStatus"), (2, u "RUNNING"), (0, u "Lcom/example/lease/lease/JobStatus;"), (2, u "COMPLETED"), (2, u "COMPLETED_WITH_ERRORS"), (2, u "FAILED"), (0, .fieldref 1 17), (0, .nameAndType 18 6), (0, u "STOPPING"), (0, .fieldref 1 20), (0, .nameAndType 21 6), (0, u "STOPPED"), (2, u "$VALUES"), (0, u "[Lcom/example/lease/lease/JobStatus;"), (6, .class_ 34), (1, u "java/lang/Enum"), (24, u "isStopped"), (0, u "()Z")] 5

def k6c0 : Code := { maxStack := 2, maxLocals := 1, code := prog_13_method_4_code, exceptionTable := #[], attributes := #[] }
def k6m0 : Method := { name := "isStopped", desc := "()Z", sig := { parameters := [], returnType := some .boolean }, accessFlags := 1, code := some k6c0 }
/-- com/example/lease/lease/JobStatus -/
def k6 : Class := { plain "com/example/lease/lease/JobStatus" (some 5) with
  accessFlags := 16433
  interfaces := #[]
  cf := some (fileOf pool6 1 #[] #[{ accessFlags := 1, nameIndex := 59, descriptorIndex := 60, attributes := #[] }] 16433 32 #[] #[{ accessFlags := 16409, nameIndex := 5, descriptorIndex := 6, attributes := #[] }, { accessFlags := 16409, nameIndex := 9, descriptorIndex := 6, attributes := #[] }, { accessFlags := 16409, nameIndex := 12, descriptorIndex := 6, attributes := #[] }, { accessFlags := 16409, nameIndex := 15, descriptorIndex := 6, attributes := #[] }, { accessFlags := 16409, nameIndex := 18, descriptorIndex := 6, attributes := #[] }, { accessFlags := 16409, nameIndex := 21, descriptorIndex := 6, attributes := #[] }, { accessFlags := 4122, nameIndex := 24, descriptorIndex := 25, attributes := #[] }])
  fields := #[{ name := "RUNNING", type := (.object "com/example/lease/lease/JobStatus"), accessFlags := 16409, slot := 0, constantValue := 0 }, { name := "COMPLETED", type := (.object "com/example/lease/lease/JobStatus"), accessFlags := 16409, slot := 1, constantValue := 0 }, { name := "COMPLETED_WITH_ERRORS", type := (.object "com/example/lease/lease/JobStatus"), accessFlags := 16409, slot := 2, constantValue := 0 }, { name := "FAILED", type := (.object "com/example/lease/lease/JobStatus"), accessFlags := 16409, slot := 3, constantValue := 0 }, { name := "STOPPING", type := (.object "com/example/lease/lease/JobStatus"), accessFlags := 16409, slot := 4, constantValue := 0 }, { name := "STOPPED", type := (.object "com/example/lease/lease/JobStatus"), accessFlags := 16409, slot := 5, constantValue := 0 }, { name := "$VALUES", type := (.array (.object "com/example/lease/lease/JobStatus")), accessFlags := 4122, slot := 6, constantValue := 0 }]
  methods := #[k6m0]
  instanceTypes := #[(.object "java/lang/String"), .int, .int]
  staticTypes := #[(.object "com/example/lease/lease/JobStatus"), (.object "com/example/lease/lease/JobStatus"), (.object "com/example/lease/lease/JobStatus"), (.object "com/example/lease/lease/JobStatus"), (.object "com/example/lease/lease/JobStatus"), (.object "com/example/lease/lease/JobStatus"), (.array (.object "com/example/lease/lease/JobStatus"))]
  resolved := Array.replicate 66 none
  statics := some 0 }

def pool7 : Array CpInfo := pool [(1, u "java/lang/Cloneable"), (0, .class_ 1), (0, u "java/lang/Object"), (0, .class_ 3)] 3

/-- java/lang/Cloneable -/
def k7 : Class := { plain "java/lang/Cloneable" (some 0) with
  accessFlags := 1537
  interfaces := #[]
  cf := some (fileOf pool7 2 #[] #[] 1537 4 #[] #[])
  fields := #[]
  methods := #[]
  instanceTypes := #[]
  staticTypes := #[]
  resolved := Array.replicate 8 none
  statics := none }

/-- the primitive byte -/
def k8 : Class := { plain "byte" none with kind := .primitive 'B', accessFlags := 0x411 }
/-- [B -/
def k9 : Class := { plain "[B" (some 0) with kind := .array 8 .byte, interfaces := #[7, 4], accessFlags := 1041 }

/-- the primitive int -/
def k10 : Class := { plain "int" none with kind := .primitive 'I', accessFlags := 0x411 }
/-- [I -/
def k11 : Class := { plain "[I" (some 0) with kind := .array 10 .int, interfaces := #[7, 4], accessFlags := 1041 }

def heap : Heap := #[{ cls := 6, slots := #[.ref 1, .ref 6, .ref 5, .ref 4, .ref 2, .ref 3, .null], vm := .statics 6 },
  { cls := 6, slots := #[.null, .int 0, .int 0], vm := .none },
  { cls := 6, slots := #[.null, .int 4, .int 0], vm := .none },
  { cls := 6, slots := #[.null, .int 5, .int 0], vm := .none },
  { cls := 6, slots := #[.null, .int 3, .int 0], vm := .none },
  { cls := 6, slots := #[.null, .int 2, .int 0], vm := .none },
  { cls := 6, slots := #[.null, .int 1, .int 0], vm := .none }]
def classes : Array Class := #[k0, k1, k2, k3, k4, k5, k6, k7, k8, k9, k10, k11]
def interned : List (Array UInt16 × Addr) := []
def slotsUsed : Nat := 25
def theMethod : MethodId := ⟨1, 2⟩
def args0 : Array Value := #[.int 5]
def aboutOver (below : List Frame) : State where
  vm := { classes := classes, interned := interned.toArray }
  heap := heap
  slotsUsed := slotsUsed
  threads := #[{ frames := .invoking theMethod args0 :: below }]
def below0 : List Frame := [.native { method := ⟨0, 0⟩, args := #[] }]
def about1 : State := aboutOver below0
def p0 : Program := .bare "" "" ""
def e0 : Env := launch0.env 0 0 0
theorem w_frames : about1.frames = Frame.invoking theMethod args0 :: below0 := rfl
set_option maxRecDepth 65536 in
theorem w_args : argsFit about1.vm theMethod args0 = true := by decide +kernel
set_option maxRecDepth 65536 in
theorem w_heap : heapFits about1 = true := by decide +kernel
set_option maxRecDepth 65536 in
theorem w_runnable : about1.curStatus? = some .runnable := by decide +kernel
set_option maxRecDepth 65536 in
theorem w_alone : about1.alone = true := by decide +kernel
set_option maxRecDepth 65536 in
theorem w_named : about1.methodNamed? x = some theMethod := by decide +kernel
set_option maxRecDepth 65536 in
theorem w_hears : about1.hears theMethod below0 = true := by decide +kernel
set_option maxRecDepth 65536 in
theorem w_ripe : about1.ripe theMethod args0 below0 = true := by decide +kernel
theorem w_running : about1.status = .running := rfl
set_option maxRecDepth 65536 in
theorem w_room : about1.hasRoom e0.platform room_1 = true :=
  launch0.hasRoom_least _ room_1 (by decide +kernel) (by decide +kernel) (by decide +kernel) (by decide +kernel) (by decide +kernel) (by decide +kernel)
theorem allAtoms_all (ts : List Jvm.Cond) (a : Array Jvm.Value) (st : Jvm.State) : (allAtoms ts).before a st = ts.all (fun c => c.before a st) := by
  induction ts with
  | nil => rfl
  | cons c t ih =>
    show (Jvm.Cond.and c (allAtoms t)).before a st = _
    rw [Jvm.Cond.before_and, ih, List.all_cons]
def words1 : List Jvm.Cond := Jvm.Cond.code x code maxLocals ret :: tables_1
/-- a 'code' word, met by the world's own term for the bytes: nothing is compared byte by byte -/
theorem code_word {y : MethodName} {bytes : ByteArray} {mx : Nat} {rt : Option FieldType} {a : Array Value} {s : State} {m : MethodId} {meth : Method} {c : Code} (h1 : s.methodNamed? y = some m) (h2 : s.vm.method? m = some meth) (h3 : meth.code = some c) (h4 : c.code = bytes)
    (h5 : (c.maxLocals == mx && c.exceptionTable.isEmpty && decide (c.maxStack ≤ mostOperands) && decide (meth.sig.returnType = rt) && !meth.locks && decide (parseMethodDescriptor y.desc = some meth.sig)) = true) : (Jvm.Cond.code y bytes mx rt).before a s = true := by
  simp only [Bool.and_eq_true, beq_iff_eq, Bool.not_eq_true', decide_eq_true_eq] at h5
  obtain ⟨⟨⟨⟨⟨g1, g2⟩, g3⟩, g4⟩, g5⟩, g6⟩ := h5
  simp [Cond.before, Cond.holds, Cond.value, h1, h2, h3, h4, g1, g2, g3, g4, g5, g6]
def isCode : Jvm.Cond → Bool
  | .code _ _ _ _ => true
  | _ => false
theorem all_split {L : List Jvm.Cond} {P : Jvm.Cond → Bool} (h1 : L.all (fun c => isCode c || P c) = true) (h2 : ∀ c ∈ L.filter isCode, P c = true) : L.all P = true := by
  refine List.all_eq_true.mpr fun c hc => ?_
  have h := List.all_eq_true.mp h1 c hc
  rcases Bool.eq_false_or_eq_true (isCode c) with hi | hi
  · exact h2 c (List.mem_filter.mpr ⟨hc, hi⟩)
  · simpa [hi] using h
set_option maxRecDepth 65536 in
theorem w_c0 : (Jvm.Cond.code x code maxLocals ret).before args0 about1 = true := code_word (m := ⟨1, 2⟩) (meth := k1m2) (c := k1c2) (by decide +kernel) rfl rfl rfl (by decide +kernel)
set_option maxRecDepth 65536 in
theorem w_c1 : (Jvm.Cond.code ({ cls := "com/example/lease/lease/JobStatusIsStoppedPinLaw", name := "pick", desc := "(I)Lcom/example/lease/lease/JobStatus;" } : Jvm.MethodName) method_2_code (1 : Nat) (Option.some (Jvm.ClassFile.FieldType.object "com/example/lease/lease/JobStatus"))).before args0 about1 = true := code_word (m := ⟨1, 1⟩) (meth := k1m1) (c := k1c1) (by decide +kernel) rfl rfl rfl (by decide +kernel)
set_option maxRecDepth 65536 in
theorem w_c2 : (Jvm.Cond.code ({ cls := "com/example/lease/lease/JobStatus", name := "isStopped", desc := "()Z" } : Jvm.MethodName) prog_13_method_4_code (1 : Nat) (Option.some Jvm.ClassFile.FieldType.boolean)).before args0 about1 = true := code_word (m := ⟨6, 0⟩) (meth := k6m0) (c := k6c0) (by decide +kernel) rfl rfl rfl (by decide +kernel)
def codes1 : List Jvm.Cond := [Jvm.Cond.code x code maxLocals ret, Jvm.Cond.code ({ cls := "com/example/lease/lease/JobStatusIsStoppedPinLaw", name := "pick", desc := "(I)Lcom/example/lease/lease/JobStatus;" } : Jvm.MethodName) method_2_code (1 : Nat) (Option.some (Jvm.ClassFile.FieldType.object "com/example/lease/lease/JobStatus")), Jvm.Cond.code ({ cls := "com/example/lease/lease/JobStatus", name := "isStopped", desc := "()Z" } : Jvm.MethodName) prog_13_method_4_code (1 : Nat) (Option.some Jvm.ClassFile.FieldType.boolean)]
set_option maxRecDepth 65536 in
theorem codes_eq : words1.filter isCode = codes1 := rfl
theorem w_codes : ∀ c ∈ words1.filter isCode, c.before args0 about1 = true := by
  rw [codes_eq]
  intro c hc
  simp only [codes1, List.mem_cons, List.not_mem_nil, or_false] at hc
  rcases hc with rfl | rfl | rfl
  · exact w_c0
  · exact w_c1
  · exact w_c2
set_option maxRecDepth 65536 in
theorem w_t1 : (words1.take 24).all (fun c => isCode c || c.before args0 about1) = true := by decide +kernel
set_option maxRecDepth 65536 in
theorem w_t2 : (words1.drop 24).all (fun c => isCode c || c.before args0 about1) = true := by decide +kernel
theorem w_tables : (allAtoms (Jvm.Cond.code x code maxLocals ret :: tables_1)).before args0 about1 = true := by
  rw [allAtoms_all]
  show words1.all (fun c => c.before args0 about1) = true
  refine all_split ?_ w_codes
  rw [← List.take_append_drop 24 words1, List.all_append, w_t1, w_t2]
  rfl
set_option maxRecDepth 65536 in
theorem w_case : (Jvm.Cond.and given_1 narrow_1).before args0 about1 = true := by decide +kernel
theorem w_applies : (headSpec (Jvm.Cond.code x code maxLocals ret :: tables_1) room_1).applies x e0.platform about1 = true :=
  (Spec.applies_iff w_frames).mpr ⟨w_running, w_runnable, w_alone, w_named, w_hears, w_ripe, w_room, w_tables⟩
theorem atStart : AtStart classFile x code maxLocals ret World_1 tables_1 room_1 Calls_1 rest_1 Pre_1 launch0 p0 e0 about1 theMethod args0 below0 :=
  ⟨lists_1, trivial, launch0.admits_env _ _ _, launch0.least_env, fairChoices_fair.cas, fairChoices_fair.clock, w_frames, w_args, w_heap, w_applies, trivial, trivial, w_case⟩
end start1
theorem witness_1 : WitnessClaimed_1 := ⟨start1.p0, start1.e0, start1.about1, start1.theMethod, start1.args0, start1.below0, start1.atStart⟩
end Jvm.Pilot.@@N@@
