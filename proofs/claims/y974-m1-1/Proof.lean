import JvmDerived
import JvmDerived.Pilot.@@N@@Statement
import JvmDerived.Pilot.@@N@@Code
set_option linter.unusedVariables false
set_option linter.unusedSimpArgs false
namespace Jvm.RoadKit
open Sem ClassFile Op Lib Jvm.Stand Jvm.Free Jvm.LawKit
section OwnNew
variable {p : Program} {l : Launch} {e : Env} {R : Room} {s : State} {m : MethodId} {args : Array Value} {below : List Frame} {meth : Method} {c : Code} {T : State} {locs : List Loc} {cells slots : Nat} {h : Heap}
/-- from S the run comes to an end of which Q holds -/
def OwnGo (p : Program) (e : Env) (below : List Frame) (S : State) (Q : Outcome → State → Prop) : Prop :=
  ∃ s₂ o, Steps p.tables e below S s₂ ∧ s₂.status = .running ∧ Ended s₂ below o ∧ Q o s₂
theorem own_go {S : State} {Q : Outcome → State → Prop} (k : OwnGo p e below S Q) : ∃ s₂ o, Steps p.tables e below S s₂ ∧ s₂.status = .running ∧ Ended s₂ below o ∧ Q o s₂ := k
theorem own_back {S S' : State} {Q : Outcome → State → Prop} (h : ∀ t, Steps p.tables e below S' t → Steps p.tables e below S t) (k : OwnGo p e below S' Q) : OwnGo p e below S Q := by
  obtain ⟨s2, o, h1, h2⟩ := k
  exact ⟨s2, o, h _ h1, h2⟩
theorem own_seq {S S' : State} {Q : Outcome → State → Prop} (h : Steps p.tables e below S S') (k : OwnGo p e below S' Q) : OwnGo p e below S Q := own_back (fun _ ht => h.trans ht) k
abbrev OwnEnd (s : State) (Qf : Option Value → Heap → List Loc → Prop) (C S : Nat) : Outcome → State → Prop := fun o U' => ∃ v L, o = .returned v ∧ Qf v U'.heap L ∧ FrameEnd s o U' L C S
theorem own_end (X : Stand p l e R s m args below meth c T locs cells slots) (hlocks : meth.locks = false) {v : Option Value} (hv : meth.sig.returnType = none → v = none) {S : State} {Qf : Option Value → Heap → List Loc → Prop} {C Sl : Nat} (eT : T.heap = h) (hc : cells ≤ C) (hs : slots ≤ Sl) (hq : Qf v h locs)
    (step : ∀ fs : List Frame, (∀ (f : JFrame) (acts : List Action), f.method = m → f.locked = none → f.entered = [] → (doReturn e (T.setTop f) acts v).1 = T.setFrames fs) → Steps p.tables e below S (T.setFrames fs)) : OwnGo p e below S (OwnEnd s Qf C Sl) := by
  obtain ⟨fs, hr, hrun, hended, hW, hsame⟩ := X.leave (v := v) hv hlocks
  refine ⟨_, _, step fs hr, hrun, hended, v, locs, rfl, ?_, ⟨_, rfl⟩, hW, hsame.mono hc hs⟩
  show Qf v T.heap locs
  rw [eT]; exact hq
theorem own_backN {Z : State} {a0 : Array Value} {y : MethodName} {bytes : ByteArray} {maxL : Nat} {ret : Option FieldType} {rm : Room} {len W : Nat} {as' : Array Value} {Q : Option Value → Heap → List Loc → Prop}
    (hM : MetFree l y (head1 [Cond.code y bytes maxL ret] rm) (fun a U => a = as' ∧ Z.Warmed39 U.vm ∧ U.heap = h) (fun _ _ _ _ _ => True) (fun _ U o U' => OwnEnd U Q rm.cells rm.slots o U'))
    (hZ : Z.Warmed39 s.vm) (wc : (Cond.code y bytes maxL ret).before a0 Z = true) (wz : (Cond.initialized y.cls).before a0 Z = true) (hf : rm.frames + 1 ≤ R.frames) (hl : W + (maxL + 11) + rm.locals ≤ R.locals) :
    Back l R p e below s args y len W (fun A a => a = as' ∧ A.U.heap = h ∧ A.cells + rm.cells ≤ R.cells ∧ A.slots + rm.slots ≤ R.slots)
      (fun A _ v B => ∃ L, Q v B.U.heap L ∧ B.locs = A.locs ++ L ∧ B.cells = A.cells + rm.cells ∧ B.slots = A.slots + rm.slots) := backOf (Q := Q) hM hZ wc wz hf hl
theorem own_retN (X : Stand p l e R s m args below meth c T locs cells slots) (hx : p.tables.exec = Jvm.exec) (hlocks : meth.locks = false) {pc : Nat} {Ls : Array Slot} {z : Int32} {t : FieldType} {rest : List Value} (hret : meth.sig.returnType = some t) (ht : t = .boolean ∨ t = .byte ∨ t = .char ∨ t = .short) (hn : nar t z = z)
    (hd : decode c.code pc = .ok (.ireturn, 1)) {Qf : Option Value → Heap → List Loc → Prop} {C Sl : Nat} (eT : T.heap = h) (hc : cells ≤ C) (hs : slots ≤ Sl) (hq : Qf (some (.int z)) h locs) : OwnGo p e below (T.setTop (mkF m pc Ls (.int z :: rest))) (OwnEnd s Qf C Sl) :=
  own_end X hlocks (fun h => by rw [hret] at h; cases h) eT hc hs hq fun fs hr => retN X hx hret ht hd (by rw [hn]; exact hr)
theorem own_retI (X : Stand p l e R s m args below meth c T locs cells slots) (hx : p.tables.exec = Jvm.exec) (hlocks : meth.locks = false) {pc : Nat} {Ls : Array Slot} {z : Int32} {rest : List Value} (hret : meth.sig.returnType = some .int)
    (hd : decode c.code pc = .ok (.ireturn, 1)) {Qf : Option Value → Heap → List Loc → Prop} {C Sl : Nat} (eT : T.heap = h) (hc : cells ≤ C) (hs : slots ≤ Sl) (hq : Qf (some (.int z)) h locs) : OwnGo p e below (T.setTop (mkF m pc Ls (.int z :: rest))) (OwnEnd s Qf C Sl) :=
  own_end X hlocks (fun h => by rw [hret] at h; cases h) eT hc hs hq fun fs hr => retOut X hx hret rfl (Or.inl ⟨rfl, Or.inl rfl, z, rfl⟩) hd hr
theorem own_retJ (X : Stand p l e R s m args below meth c T locs cells slots) (hx : p.tables.exec = Jvm.exec) (hlocks : meth.locks = false) {pc : Nat} {Ls : Array Slot} {z : Int64} {rest : List Value} (hret : meth.sig.returnType = some .long)
    (hd : decode c.code pc = .ok (.lreturn, 1)) {Qf : Option Value → Heap → List Loc → Prop} {C Sl : Nat} (eT : T.heap = h) (hc : cells ≤ C) (hs : slots ≤ Sl) (hq : Qf (some (.long z)) h locs) : OwnGo p e below (T.setTop (mkF m pc Ls (.long z :: rest))) (OwnEnd s Qf C Sl) :=
  own_end X hlocks (fun h => by rw [hret] at h; cases h) eT hc hs hq fun fs hr => retOut X hx hret rfl (Or.inr (Or.inl ⟨rfl, rfl, z, rfl⟩)) hd hr
theorem own_narA {t : FieldType} {w : Value} (h : w.isRef = true) : narrow t w = w := by
  rcases ref_cases h with rfl | ⟨a, rfl⟩ <;> cases t <;> rfl
theorem own_retA (X : Stand p l e R s m args below meth c T locs cells slots) (hx : p.tables.exec = Jvm.exec) (hlocks : meth.locks = false) {pc : Nat} {Ls : Array Slot} {w : Value} {t : FieldType} {rest : List Value} (hret : meth.sig.returnType = some t) (ht : t.isReference = true) (hw : w.isRef = true)
    (hd : decode c.code pc = .ok (.areturn, 1)) {Qf : Option Value → Heap → List Loc → Prop} {C Sl : Nat} (eT : T.heap = h) (hc : cells ≤ C) (hs : slots ≤ Sl) (hq : Qf (some w) h locs) : OwnGo p e below (T.setTop (mkF m pc Ls (w :: rest))) (OwnEnd s Qf C Sl) :=
  own_end X hlocks (fun h => by rw [hret] at h; cases h) eT hc hs hq fun fs hr => retOut X hx hret (own_narA hw) (Or.inr (Or.inr (Or.inr (Or.inr ⟨rfl, ht, hw⟩)))) hd hr
theorem own_retV (X : Stand p l e R s m args below meth c T locs cells slots) (hx : p.tables.exec = Jvm.exec) (hlocks : meth.locks = false) {pc : Nat} {Ls : Array Slot} (hret : meth.sig.returnType = none)
    (hd : decode c.code pc = .ok (.return_, 1)) {Qf : Option Value → Heap → List Loc → Prop} {C Sl : Nat} (eT : T.heap = h) (hc : cells ≤ C) (hs : slots ≤ Sl) (hq : Qf none h locs) : OwnGo p e below (T.setTop (mkF m pc Ls [])) (OwnEnd s Qf C Sl) :=
  own_end X hlocks (fun _ => rfl) eT hc hs hq fun fs hr => X.returnOut hx hret hd hr
end OwnNew
section OwnTerms
variable {args : Array Value} {first s : State} {o : Option Outcome} {idx : List Nat} {t u : Term}
theorem own_eqint {k : Int32} (h : (Cond.eq t (.int k)).value args first o s idx = some true) : t.eval args first o idx s = some (.int k) := by
  cases ha : t.eval args first o idx s with
  | none => simp [Cond.value, ha] at h
  | some x =>
    have hb : (Term.int k).eval args first o idx s = some (.int k) := Term.int_eval k
    cases x <;> simp [Cond.value, ha, hb, Value.isRef] at h ⊢
    exact h
theorem own_eqref {w : Addr} (hu : u.eval args first o idx s = some (.ref w)) (h : (Cond.eq t u).value args first o s idx = some true) : t.eval args first o idx s = some (.ref w) := by
  cases ha : t.eval args first o idx s with
  | none => simp [Cond.value, ha] at h
  | some x =>
    cases x <;> simp [Cond.value, ha, hu, Value.isRef] at h ⊢
    exact h
end OwnTerms
section OwnArr
variable {s : State} {args : Array Value} {t u : Term} {a : Addr} {c : Cell} {ty : FieldType}
theorem own_nat32 {n : Nat} (h : n < 2 ^ 31) : n.toInt32.toNatClampNeg = n := by
  have e : n.toInt32.toInt = n := Int32.toInt_ofNat_of_lt h
  have := nat_of (j := n.toInt32) (by rw [Int32.lt_iff_toInt_lt, e]; have z : (0 : Int32).toInt = 0 := rfl; omega)
  omega
theorem own_len {n : Int32} (A : Arr s s.heap a c ty) (et : t.eval args s none [] s = some (.ref a)) (h : (Cond.eq (.length t) (.int n)).value args s none s [] = some true) {k : Nat} (hk : n.toNatClampNeg = k := by rfl) : c.slots.size = k := by
  have e := own_eqint h
  have ha : s.arrayAt? a = some c := IntBox.arrayAt_of A.1 A.2.1 A.2.2
  by_cases hl : c.slots.size < 2 ^ 31
  · rw [len_f et ha hl] at e
    have e2 : c.slots.size.toInt32 = n := by injection e with e; injection e
    rw [← hk, ← e2]
    exact (own_nat32 hl).symm
  · simp [Term.eval, et, ha, hl] at e
theorem own_elem {j k : Int32} (A : Arr s s.heap a c ty) (et : t.eval args s none [] s = some (.ref a)) (h : (Cond.eq (.elem t (.int j)) (.int k)).value args s none s [] = some true) (hj : ¬ j < 0) : c.slots[j.toNatClampNeg]? = some (.int k) := by
  have e := own_eqint h
  have ha : s.arrayAt? a = some c := IntBox.arrayAt_of A.1 A.2.1 A.2.2
  rw [elem_f et (Term.int_eval j) ha hj] at e
  exact e
theorem own_elemR {j : Int32} {w : Addr} (A : Arr s s.heap a c ty) (et : t.eval args s none [] s = some (.ref a)) (hu : u.eval args s none [] s = some (.ref w)) (h : (Cond.eq (.elem t (.int j)) u).value args s none s [] = some true) (hj : ¬ j < 0) : c.slots[j.toNatClampNeg]? = some (.ref w) := by
  have e := own_eqref hu h
  have ha : s.arrayAt? a = some c := IntBox.arrayAt_of A.1 A.2.1 A.2.2
  rw [elem_f et (Term.int_eval j) ha hj] at e
  exact e
end OwnArr
section OwnMore
variable {Z : State} {h h' : Heap}
theorem own_arr_ne {a b : Addr} {c d : Cell} {t u : FieldType} (A : Arr Z h a c t) (B : Arr Z h b d u) (q : t ≠ u) : a ≠ b := fun e => by
  subst e
  cases A.1.symm.trans B.1
  obtain ⟨-, k1, h1, cp1, h2⟩ := A.2.1
  obtain ⟨-, k2, h3, cp2, h4⟩ := B.2.1
  cases h1.symm.trans h3
  rw [h2] at h4
  injection h4 with _ h5
  exact q h5
theorem own_arv_ne {a b : Addr} {k k' : ClassId} {t u : FieldType} {z z' : Int32} {vs vs' : List Value} {d d' : Value} (A : Arv Z h a k t z vs d) (B : Arv Z h b k' u z' vs' d') (q : t ≠ u) : a ≠ b := by
  obtain ⟨c, A, -⟩ := A
  obtain ⟨c', B, -⟩ := B
  exact own_arr_ne A B q
theorem own_ext (K : Keep h h' []) : Ext h h' := ⟨K.1, fun x c q => K.2.1 x c q nin0⟩
theorem own_fitA {t : FieldType} {w : Value} (hw : w.isRef = true) (ht : t.isReference = true := by rfl) : fits t w = true := by
  rcases ref_cases hw with rfl | ⟨a, rfl⟩ <;> cases t <;> first | rfl | cases ht
end OwnMore
section OwnRem
variable {p : Program} {l : Launch} {e : Env} {R : Room} {s : State} {m : MethodId} {args : Array Value} {below : List Frame} {meth : Method} {c : Code} {T : State} {locs : List Loc} {cells slots : Nat}
theorem own_lrem {g : JFrame} {target : State} (X : Stand p l e R s m args below meth c T locs cells slots) (hx : p.tables.exec = Jvm.exec) (hg : g.method = m) {x y : Int64} {rest : List Value} (hd : decode c.code g.pc = .ok (.lrem, 1)) (hs : g.stack = .long y :: .long x :: rest) (hy : y ≠ 0)
    (hr : Steps p.tables e below (T.setTop { g with pc := g.pc + 1, stack := .long (x % y) :: rest }) target) : Steps p.tables e below (T.setTop g) target :=
  XS.lrem X.here hx hg hd hs hy (by rw [lrem_mod]; exact hr)
end OwnRem
end Jvm.RoadKit
namespace Jvm.Pilot.@@N@@
open Jvm Jvm.ClassFile Sem Op Lib Jvm.Free Jvm.Stand Jvm.LawKit Jvm.RoadKit Bundle Jvm.Pilot.@@N@@.Jvm.D
theorem pk_d0 : decode method_2_code 0 = .ok (.iload_n 0, 1) := by decide +kernel
theorem pk_d1 : decode method_2_code 1 = .ok (.iconst 1, 1) := by decide +kernel
theorem pk_d2 : decode method_2_code 2 = .ok (.iand, 1) := by decide +kernel
theorem pk_d3 : decode method_2_code 3 = .ok (.ifCond .eq 9, 3) := by decide +kernel
theorem pk_d6 : decode method_2_code 6 = .ok (.getstatic 7, 3) := by decide +kernel
theorem pk_d9 : decode method_2_code 9 = .ok (.goto 6, 3) := by decide +kernel
theorem pk_d12 : decode method_2_code 12 = .ok (.getstatic 13, 3) := by decide +kernel
theorem pk_d15 : decode method_2_code 15 = .ok (.areturn, 1) := by decide +kernel
theorem pk_pn : plainName "com/example/kerbline/kerbline/SideOtherPinLaw" = true := by first | (simp [plainName, overriddenIn]; done) | decide +kernel
theorem pk_ef (m : MethodId) (x0 : Int32) : entryFrame m #[(.int x0)] 1 = mkF m 0 #[.val (.int x0)] [] := by first | (simp [entryFrame, mkF, argsToLocals, Value.category]; done) | rfl
set_option maxRecDepth 65536 in
set_option maxHeartbeats 40000000 in
theorem rm_pick (l : Launch) (Z : State) (a0 : Array Value) (hw : ∀ d ∈ tables_1, d.before a0 Z = true) (ws : List Jvm.Cond) (p1 : Int32) (wBUY : Addr) (wSELL : Addr) (h0 : Heap) (n0 : Nat) (Z0 : n0 ≤ h0.size) (SBUY : Sta Z h0 "com/example/kerbline/kerbline/Side" "BUY" "Lcom/example/kerbline/kerbline/Side;" (.ref wBUY)) (SSELL : Sta Z h0 "com/example/kerbline/kerbline/Side" "SELL" "Lcom/example/kerbline/kerbline/Side;" (.ref wSELL)) :
    MetFree l (⟨"com/example/kerbline/kerbline/SideOtherPinLaw", "pick", "(I)Lcom/example/kerbline/kerbline/Side;"⟩ : MethodName) (head1 (Jvm.Cond.code (⟨"com/example/kerbline/kerbline/SideOtherPinLaw", "pick", "(I)Lcom/example/kerbline/kerbline/Side;"⟩ : MethodName) method_2_code 1 (some (.object "com/example/kerbline/kerbline/Side")) :: ws) ({ frames := 0, cells := 0, slots := 0, locals := 0 } : Room)) (fun a U => a = #[(.int p1)] ∧ Z.Warmed39 U.vm ∧ U.heap = h0) (fun _ _ _ _ _ => True) (fun _ U o U' => OwnEnd U (fun v h L => v = some (.ref (if p1 &&& 1 = 0 then wBUY else wSELL)) ∧ Fr n0 L ∧ h = h0) ({ frames := 0, cells := 0, slots := 0, locals := 0 } : Room).cells ({ frames := 0, cells := 0, slots := 0, locals := 0 } : Room).slots o U') := by
  refine MetFree.of_bodySF (plainFor_of_name pk_pn) hisR ?_
  intro p e s m args below meth c s₁ Bd hml0 hP hK
  obtain ⟨rfl, hZ, hh⟩ := hP
  have hx := Bd.exec
  have hby := Bd.bytes
  have hml : c.maxLocals = 1 := hml0
  have hown : s.vm.findClass "com/example/kerbline/kerbline/SideOtherPinLaw" = some m.cls := findClass_of_methodNamed Bd.named
  have hnm := (name_of_methodNamed Bd.named Bd.method).1
  have X0 : Stand p l e ({ frames := 0, cells := 0, slots := 0, locals := 0 } : Room) s m #[(.int p1)] below meth c s₁ [] 0 0 := Stand.of_body Bd
  have e0 : s₁.heap = h0 := by rw [← hh, Bd.state]; rfl
  have N0 := Fr.nil n0
  have KP0 := Keep.refl h0 []
  refine own_go (Q := (OwnEnd s (fun v h L => v = some (.ref (if p1 &&& 1 = 0 then wBUY else wSELL)) ∧ Fr n0 L ∧ h = h0) ({ frames := 0, cells := 0, slots := 0, locals := 0 } : Room).cells ({ frames := 0, cells := 0, slots := 0, locals := 0 } : Room).slots)) ?_
  refine own_back (fun t k => castTop (pk_ef m p1) k) ?_
  show OwnGo p e below (s₁.setTop (mkF m 0 #[.val (.int p1)] [])) _
  refine own_back (fun t k => XS.iloadN X0.here hx rfl (hb hby pk_d0) rfl k) ?_
  show OwnGo p e below (s₁.setTop (mkF m 1 #[.val (.int p1)] [(.int p1)])) _
  refine own_back (fun t k => XS.iconst X0.here hx rfl (hb hby pk_d1) k) ?_
  show OwnGo p e below (s₁.setTop (mkF m 2 #[.val (.int p1)] [(.int (1 : Int32)), (.int p1)])) _
  refine own_back (fun t k => XS.iand X0.here hx rfl (hb hby pk_d2) rfl k) ?_
  show OwnGo p e below (s₁.setTop (mkF m 3 #[.val (.int p1)] [(.int (p1 &&& (1 : Int32)))])) _
  by_cases hc3_101 : (p1 &&& (1 : Int32)) = (0 : Int32)
  · refine own_back (fun t k => XS.ifYes X0.here hx rfl (pc0 := 3) (pc' := 12) rfl (hb hby pk_d3) rfl (Jvm.Free.XT.i0_eq_t hc3_101) (by decide) (by decide) k) ?_
    show OwnGo p e below (s₁.setTop (mkF m 12 #[.val (.int p1)] [])) _
    obtain ⟨T102, X102, e102, st102⟩ := getS2 X0 hx hZ hown (host := "") (Or.inl (hw _ (List.mem_of_getElem? (i := 4) rfl))) Via.refl e0 SBUY (g := (mkF m 12 #[.val (.int p1)] [])) rfl (hb hby pk_d12)
    refine own_back st102 ?_
    show OwnGo p e below (T102.setTop (mkF m 15 #[.val (.int p1)] [(.ref wBUY)])) _
    refine own_retA X102 hx Bd.notSynchronized Bd.returns rfl rfl (hb hby pk_d15) e102 (Nat.le_of_ble_eq_true rfl) (Nat.le_of_ble_eq_true rfl) ?_
    exact ⟨by rw [if_pos hc3_101], N0, rfl⟩
  · refine own_back (fun t k => XS.ifNo X0.here hx rfl (hb hby pk_d3) rfl (Jvm.Free.XT.i0_eq_f hc3_101) k) ?_
    show OwnGo p e below (s₁.setTop (mkF m 6 #[.val (.int p1)] [])) _
    obtain ⟨T103, X103, e103, st103⟩ := getS2 X0 hx hZ hown (host := "") (Or.inl (hw _ (List.mem_of_getElem? (i := 15) rfl))) Via.refl e0 SSELL (g := (mkF m 6 #[.val (.int p1)] [])) rfl (hb hby pk_d6)
    refine own_back st103 ?_
    show OwnGo p e below (T103.setTop (mkF m 9 #[.val (.int p1)] [(.ref wSELL)])) _
    refine own_back (fun t k => XS.goto X103.here hx rfl (pc0 := 9) (pc' := 15) rfl (hb hby pk_d9) (by decide) (by decide) k) ?_
    show OwnGo p e below (T103.setTop (mkF m 15 #[.val (.int p1)] [(.ref wSELL)])) _
    refine own_retA X103 hx Bd.notSynchronized Bd.returns rfl rfl (hb hby pk_d15) e103 (Nat.le_of_ble_eq_true rfl) (Nat.le_of_ble_eq_true rfl) ?_
    exact ⟨by rw [if_neg hc3_101], N0, rfl⟩
theorem ot_d0 : decode prog_32_method_5_code 0 = .ok (.aload_n 0, 1) := by decide +kernel
theorem ot_d1 : decode prog_32_method_5_code 1 = .ok (.getstatic 3, 3) := by decide +kernel
theorem ot_d4 : decode prog_32_method_5_code 4 = .ok (.if_acmp .ne 9, 3) := by decide +kernel
theorem ot_d7 : decode prog_32_method_5_code 7 = .ok (.getstatic 7, 3) := by decide +kernel
theorem ot_d10 : decode prog_32_method_5_code 10 = .ok (.goto 6, 3) := by decide +kernel
theorem ot_d13 : decode prog_32_method_5_code 13 = .ok (.getstatic 3, 3) := by decide +kernel
theorem ot_d16 : decode prog_32_method_5_code 16 = .ok (.areturn, 1) := by decide +kernel
theorem ot_pn : plainName "com/example/kerbline/kerbline/Side" = true := by first | (simp [plainName, overriddenIn]; done) | decide +kernel
theorem ot_ef (m : MethodId) (x0 : Addr) : entryFrame m #[(.ref x0)] 1 = mkF m 0 #[.val (.ref x0)] [] := by first | (simp [entryFrame, mkF, argsToLocals, Value.category]; done) | rfl
set_option maxRecDepth 65536 in
set_option maxHeartbeats 40000000 in
theorem rm_other (l : Launch) (Z : State) (a0 : Array Value) (hw : ∀ d ∈ tables_1, d.before a0 Z = true) (ws : List Jvm.Cond) (a1 : Addr) (wBUY : Addr) (wSELL : Addr) (h0 : Heap) (n0 : Nat) (Z0 : n0 ≤ h0.size) (SBUY : Sta Z h0 "com/example/kerbline/kerbline/Side" "BUY" "Lcom/example/kerbline/kerbline/Side;" (.ref wBUY)) (SSELL : Sta Z h0 "com/example/kerbline/kerbline/Side" "SELL" "Lcom/example/kerbline/kerbline/Side;" (.ref wSELL)) :
    MetFree l (⟨"com/example/kerbline/kerbline/Side", "other", "()Lcom/example/kerbline/kerbline/Side;"⟩ : MethodName) (head1 (Jvm.Cond.code (⟨"com/example/kerbline/kerbline/Side", "other", "()Lcom/example/kerbline/kerbline/Side;"⟩ : MethodName) prog_32_method_5_code 1 (some (.object "com/example/kerbline/kerbline/Side")) :: ws) ({ frames := 0, cells := 0, slots := 0, locals := 0 } : Room)) (fun a U => a = #[(.ref a1)] ∧ Z.Warmed39 U.vm ∧ U.heap = h0) (fun _ _ _ _ _ => True) (fun _ U o U' => OwnEnd U (fun v h L => v = some (.ref (if a1 = wBUY then wSELL else wBUY)) ∧ Fr n0 L ∧ h = h0) ({ frames := 0, cells := 0, slots := 0, locals := 0 } : Room).cells ({ frames := 0, cells := 0, slots := 0, locals := 0 } : Room).slots o U') := by
  refine MetFree.of_bodySF (plainFor_of_name ot_pn) hisR ?_
  intro p e s m args below meth c s₁ Bd hml0 hP hK
  obtain ⟨rfl, hZ, hh⟩ := hP
  have hx := Bd.exec
  have hby := Bd.bytes
  have hml : c.maxLocals = 1 := hml0
  have hown : s.vm.findClass "com/example/kerbline/kerbline/Side" = some m.cls := findClass_of_methodNamed Bd.named
  have hnm := (name_of_methodNamed Bd.named Bd.method).1
  have X0 : Stand p l e ({ frames := 0, cells := 0, slots := 0, locals := 0 } : Room) s m #[(.ref a1)] below meth c s₁ [] 0 0 := Stand.of_body Bd
  have e0 : s₁.heap = h0 := by rw [← hh, Bd.state]; rfl
  have N0 := Fr.nil n0
  have KP0 := Keep.refl h0 []
  refine own_go (Q := (OwnEnd s (fun v h L => v = some (.ref (if a1 = wBUY then wSELL else wBUY)) ∧ Fr n0 L ∧ h = h0) ({ frames := 0, cells := 0, slots := 0, locals := 0 } : Room).cells ({ frames := 0, cells := 0, slots := 0, locals := 0 } : Room).slots)) ?_
  refine own_back (fun t k => castTop (ot_ef m a1) k) ?_
  show OwnGo p e below (s₁.setTop (mkF m 0 #[.val (.ref a1)] [])) _
  refine own_back (fun t k => XS.aloadN X0.here hx rfl (hb hby ot_d0) rfl rfl k) ?_
  show OwnGo p e below (s₁.setTop (mkF m 1 #[.val (.ref a1)] [(.ref a1)])) _
  obtain ⟨T104, X104, e104, st104⟩ := getS2 X0 hx hZ hown (host := "") (Or.inl (hw _ (List.mem_of_getElem? (i := 12) rfl))) Via.refl e0 SBUY (g := (mkF m 1 #[.val (.ref a1)] [(.ref a1)])) rfl (hb hby ot_d1)
  refine own_back st104 ?_
  show OwnGo p e below (T104.setTop (mkF m 4 #[.val (.ref a1)] [(.ref wBUY), (.ref a1)])) _
  by_cases ha4_105 : a1 = wBUY
  · refine own_back (fun t k => Jvm.RoadKit.acmp (g := (mkF m 4 #[.val (.ref a1)] [(.ref wBUY), (.ref a1)])) X104 hx rfl rfl rfl (pc0 := 4) (pc' := 7) (same := true) rfl (hb hby ot_d4) rfl (decide_eq_true (congrArg Value.ref ha4_105)) (by decide) (by decide) k) ?_
    show OwnGo p e below (T104.setTop (mkF m 7 #[.val (.ref a1)] [])) _
    obtain ⟨T106, X106, e106, st106⟩ := getS2 X104 hx hZ hown (host := "") (Or.inl (hw _ (List.mem_of_getElem? (i := 13) rfl))) Via.refl e104 SSELL (g := (mkF m 7 #[.val (.ref a1)] [])) rfl (hb hby ot_d7)
    refine own_back st106 ?_
    show OwnGo p e below (T106.setTop (mkF m 10 #[.val (.ref a1)] [(.ref wSELL)])) _
    refine own_back (fun t k => XS.goto X106.here hx rfl (pc0 := 10) (pc' := 16) rfl (hb hby ot_d10) (by decide) (by decide) k) ?_
    show OwnGo p e below (T106.setTop (mkF m 16 #[.val (.ref a1)] [(.ref wSELL)])) _
    refine own_retA X106 hx Bd.notSynchronized Bd.returns rfl rfl (hb hby ot_d16) e106 (Nat.le_of_ble_eq_true rfl) (Nat.le_of_ble_eq_true rfl) ?_
    exact ⟨by rw [if_pos ha4_105], N0, rfl⟩
  · refine own_back (fun t k => Jvm.RoadKit.acmp (g := (mkF m 4 #[.val (.ref a1)] [(.ref wBUY), (.ref a1)])) X104 hx rfl rfl rfl (pc0 := 4) (pc' := 13) (same := false) rfl (hb hby ot_d4) rfl (decide_eq_false fun q => ha4_105 (Value.ref.inj q)) (by decide) (by decide) k) ?_
    show OwnGo p e below (T104.setTop (mkF m 13 #[.val (.ref a1)] [])) _
    obtain ⟨T107, X107, e107, st107⟩ := getS2 X104 hx hZ hown (host := "") (Or.inl (hw _ (List.mem_of_getElem? (i := 12) rfl))) Via.refl e104 SBUY (g := (mkF m 13 #[.val (.ref a1)] [])) rfl (hb hby ot_d13)
    refine own_back st107 ?_
    show OwnGo p e below (T107.setTop (mkF m 16 #[.val (.ref a1)] [(.ref wBUY)])) _
    refine own_retA X107 hx Bd.notSynchronized Bd.returns rfl rfl (hb hby ot_d16) e107 (Nat.le_of_ble_eq_true rfl) (Nat.le_of_ble_eq_true rfl) ?_
    exact ⟨by rw [if_neg ha4_105], N0, rfl⟩
theorem lw_pn : plainName "com/example/kerbline/kerbline/SideOtherPinLaw" = true := by first | (simp [plainName, overriddenIn]; done) | decide +kernel
theorem lw_pd0 : parseMethodDescriptor "(I)Lcom/example/kerbline/kerbline/Side;" = some ⟨[.int], some (.object "com/example/kerbline/kerbline/Side")⟩ := by decide +kernel
theorem lw_pd1 : parseMethodDescriptor "()Lcom/example/kerbline/kerbline/Side;" = some ⟨[], some (.object "com/example/kerbline/kerbline/Side")⟩ := by decide +kernel
theorem lw_ef (m : MethodId) (x0 : Int32) : entryFrame m #[(.int x0)] maxLocals = mkF m 0 #[.val (.int x0), .unset, .unset] [] := by first | (simp [entryFrame, mkF, argsToLocals, Value.category, maxLocals]; done) | rfl
set_option maxRecDepth 65536 in
set_option maxHeartbeats 40000000 in
theorem rm_law (l : Launch) (Z : State) (a0 : Array Value) (hw : ∀ d ∈ tables_1, d.before a0 Z = true) (ws : List Jvm.Cond) (p1 : Int32) (wBUY : Addr) (wSELL : Addr) (h0 : Heap) (n0 : Nat) (Z0 : n0 ≤ h0.size) (SBUY : Sta Z h0 "com/example/kerbline/kerbline/Side" "BUY" "Lcom/example/kerbline/kerbline/Side;" (.ref wBUY)) (SSELL : Sta Z h0 "com/example/kerbline/kerbline/Side" "SELL" "Lcom/example/kerbline/kerbline/Side;" (.ref wSELL)) (EBUY : Exa Z h0 wBUY "com/example/kerbline/kerbline/Side") (ESELL : Exa Z h0 wSELL "com/example/kerbline/kerbline/Side") (hne : ¬ wSELL = wBUY) :
    MetFree l x (head1 (Jvm.Cond.code x code maxLocals ret :: ws) room_1) (fun a U => a = #[(.int p1)] ∧ Z.Warmed39 U.vm ∧ U.heap = h0) (fun _ _ _ _ _ => True) (fun _ U o U' => OwnEnd U (fun v h L => v = some (.int 1) ∧ Fr n0 L) room_1.cells room_1.slots o U') := by
  refine MetFree.of_bodySF (plainFor_of_name lw_pn) hisR ?_
  intro p e s m args below meth c s₁ Bd hml0 hP hK
  obtain ⟨rfl, hZ, hh⟩ := hP
  have hx := Bd.exec
  have hby := Bd.bytes
  have hml : c.maxLocals = 3 := hml0
  have hown : s.vm.findClass "com/example/kerbline/kerbline/SideOtherPinLaw" = some m.cls := findClass_of_methodNamed Bd.named
  have hnm := (name_of_methodNamed Bd.named Bd.method).1
  have X0 : Stand p l e room_1 s m #[(.int p1)] below meth c s₁ [] 0 0 := Stand.of_body Bd
  have e0 : s₁.heap = h0 := by rw [← hh, Bd.state]; rfl
  have N0 := Fr.nil n0
  have KP0 := Keep.refl h0 []
  refine own_go (Q := (OwnEnd s (fun v h L => v = some (.int 1) ∧ Fr n0 L) room_1.cells room_1.slots)) ?_
  refine own_back (fun t k => castTop (lw_ef m p1) k) ?_
  show OwnGo p e below (s₁.setTop (mkF m 0 #[.val (.int p1), .unset, .unset] [])) _
  refine own_back (fun t k => XS.iloadN X0.here hx rfl (hb hby at_0) rfl k) ?_
  show OwnGo p e below (s₁.setTop (mkF m 1 #[.val (.int p1), .unset, .unset] [(.int p1)])) _
  by_cases hp108 : p1 &&& 1 = 0
  · obtain ⟨_, _, ⟨T109, L109, k109, n109⟩, -, X109, ⟨Lc109, hQ109, l109, y109, z109⟩, st109⟩ := Jvm.LawKit.callS X0 hx (y := (⟨"com/example/kerbline/kerbline/SideOtherPinLaw", "pick", "(I)Lcom/example/kerbline/kerbline/Side;"⟩ : MethodName)) hown (mvT hZ (hw _ (List.mem_of_getElem? (i := 0) rfl))) (mvT hZ (hw _ (List.mem_of_getElem? (i := 1) rfl))) (mvT hZ (hw _ (List.mem_of_getElem? (i := 2) rfl))) (mvT hZ (hw _ (List.mem_of_getElem? (i := 3) rfl))) (by decide) (own_backN (W := 0) (rm_pick l Z a0 hw [] p1 wBUY wSELL h0 n0 Z0 SBUY SSELL) hZ (hw _ (List.mem_of_getElem? (i := 3) rfl)) (hw _ (List.mem_of_getElem? (i := 2) rfl)) (by decide) (by decide)) (g := (mkF m 1 #[.val (.int p1), .unset, .unset] [(.int p1)])) rfl (by rw [hml]; rfl) (argsL := [(.int p1)]) (rest := []) (lenOf lw_pd0 rfl) rfl (by show 2 * 0 + _ ≤ _; exact Nat.le_of_eq rfl) (hb hby at_1) (fun _ _ => ⟨rfl, e0, Nat.le_of_ble_eq_true rfl, Nat.le_of_ble_eq_true rfl⟩)
    dsimp only [Pt.U, Pt.locs, Pt.cells, Pt.slots] at X109 l109 y109 z109 st109 hQ109
    subst l109 y109 z109
    rw [if_pos hp108] at hQ109
    obtain ⟨rfl, N109q, hh109⟩ := hQ109
    refine own_back st109 ?_
    have N109 := Fr.app N0 N109q
    show OwnGo p e below (T109.setTop (mkF m 4 #[.val (.int p1), .unset, .unset] [(.ref wBUY)])) _
    refine own_back (fun t k => XS.astoreN X109.here hx rfl (hb hby at_4) rfl rfl (l' := #[.val (.int p1), .val (.ref wBUY), .unset]) rfl k) ?_
    show OwnGo p e below (T109.setTop (mkF m 5 #[.val (.int p1), .val (.ref wBUY), .unset] [])) _
    refine own_back (fun t k => XS.aloadN X109.here hx rfl (hb hby at_5) rfl rfl k) ?_
    show OwnGo p e below (T109.setTop (mkF m 6 #[.val (.int p1), .val (.ref wBUY), .unset] [(.ref wBUY)])) _
    obtain ⟨cq110, kq110, q110a, q110b, q110c⟩ := isOf hZ hh109 EBUY
    obtain ⟨_, _, ⟨T110, L110, k110, n110⟩, -, X110, ⟨Lc110, hQ110, l110, y110, z110⟩, st110⟩ := X109.virtualBack hx (y := (⟨"com/example/kerbline/kerbline/Side", "other", "()Lcom/example/kerbline/kerbline/Side;"⟩ : MethodName)) (z := (⟨"com/example/kerbline/kerbline/Side", "other", "()Lcom/example/kerbline/kerbline/Side;"⟩ : MethodName)) hown (mvT hZ (hw _ (List.mem_of_getElem? (i := 7) rfl))) (mvT hZ (hw _ (List.mem_of_getElem? (i := 8) rfl))) (notFace_of_selects (args := #[]) (mvT hZ (hw _ (List.mem_of_getElem? (i := 10) rfl)))) (mvT hZ (hw _ (List.mem_of_getElem? (i := 10) rfl))) (mvT hZ (hw _ (List.mem_of_getElem? (i := 9) rfl))) (by decide) (own_backN (W := 0) (rm_other l Z a0 hw [] wBUY wBUY wSELL h0 n0 Z0 SBUY SSELL) hZ (hw _ (List.mem_of_getElem? (i := 11) rfl)) (hw _ (List.mem_of_getElem? (i := 5) rfl)) (by decide) (by decide)) q110a q110c (g := (mkF m 6 #[.val (.int p1), .val (.ref wBUY), .unset] [(.ref wBUY)])) rfl (by rw [hml]; rfl) (Steps.refl _) (argsL := []) (rest := []) (lenOf lw_pd1 rfl) rfl (by show 2 * 0 + _ ≤ _; exact Nat.le_of_eq rfl) (hb hby at_6) (fun _ _ => ⟨rfl, hh109, Nat.le_of_ble_eq_true rfl, Nat.le_of_ble_eq_true rfl⟩)
    dsimp only [Pt.U, Pt.locs, Pt.cells, Pt.slots] at X110 l110 y110 z110 st110 hQ110
    subst l110 y110 z110
    rw [if_pos rfl] at hQ110
    obtain ⟨rfl, N110q, hh110⟩ := hQ110
    refine own_seq st110 ?_
    have N110 := Fr.app N109 N110q
    show OwnGo p e below (T110.setTop (mkF m 9 #[.val (.int p1), .val (.ref wBUY), .unset] [(.ref wSELL)])) _
    refine own_back (fun t k => XS.astoreN X110.here hx rfl (hb hby at_9) rfl rfl (l' := #[.val (.int p1), .val (.ref wBUY), .val (.ref wSELL)]) rfl k) ?_
    show OwnGo p e below (T110.setTop (mkF m 10 #[.val (.int p1), .val (.ref wBUY), .val (.ref wSELL)] [])) _
    refine own_back (fun t k => XS.aloadN X110.here hx rfl (hb hby at_10) rfl rfl k) ?_
    show OwnGo p e below (T110.setTop (mkF m 11 #[.val (.int p1), .val (.ref wBUY), .val (.ref wSELL)] [(.ref wSELL)])) _
    refine own_back (fun t k => XS.ifnonnullYes X110.here hx rfl (pc0 := 11) (pc' := 16) rfl (hb hby at_11) rfl (by decide) (by decide) k) ?_
    show OwnGo p e below (T110.setTop (mkF m 16 #[.val (.int p1), .val (.ref wBUY), .val (.ref wSELL)] [])) _
    refine own_back (fun t k => XS.aloadN X110.here hx rfl (hb hby at_16) rfl rfl k) ?_
    show OwnGo p e below (T110.setTop (mkF m 17 #[.val (.int p1), .val (.ref wBUY), .val (.ref wSELL)] [(.ref wSELL)])) _
    refine own_back (fun t k => XS.aloadN X110.here hx rfl (hb hby at_17) rfl rfl k) ?_
    show OwnGo p e below (T110.setTop (mkF m 18 #[.val (.int p1), .val (.ref wBUY), .val (.ref wSELL)] [(.ref wBUY), (.ref wSELL)])) _
    refine own_back (fun t k => Jvm.RoadKit.acmp (g := (mkF m 18 #[.val (.int p1), .val (.ref wBUY), .val (.ref wSELL)] [(.ref wBUY), (.ref wSELL)])) X110 hx rfl rfl rfl (pc0 := 18) (pc' := 23) (same := false) rfl (hb hby at_18) rfl (decide_eq_false fun q => hne (Value.ref.inj q)) (by decide) (by decide) k) ?_
    show OwnGo p e below (T110.setTop (mkF m 23 #[.val (.int p1), .val (.ref wBUY), .val (.ref wSELL)] [])) _
    refine own_back (fun t k => XS.aloadN X110.here hx rfl (hb hby at_23) rfl rfl k) ?_
    show OwnGo p e below (T110.setTop (mkF m 24 #[.val (.int p1), .val (.ref wBUY), .val (.ref wSELL)] [(.ref wSELL)])) _
    obtain ⟨cq111, kq111, q111a, q111b, q111c⟩ := isOf hZ hh110 ESELL
    obtain ⟨_, _, ⟨T111, L111, k111, n111⟩, -, X111, ⟨Lc111, hQ111, l111, y111, z111⟩, st111⟩ := X110.virtualBack hx (y := (⟨"com/example/kerbline/kerbline/Side", "other", "()Lcom/example/kerbline/kerbline/Side;"⟩ : MethodName)) (z := (⟨"com/example/kerbline/kerbline/Side", "other", "()Lcom/example/kerbline/kerbline/Side;"⟩ : MethodName)) hown (mvT hZ (hw _ (List.mem_of_getElem? (i := 7) rfl))) (mvT hZ (hw _ (List.mem_of_getElem? (i := 8) rfl))) (notFace_of_selects (args := #[]) (mvT hZ (hw _ (List.mem_of_getElem? (i := 10) rfl)))) (mvT hZ (hw _ (List.mem_of_getElem? (i := 10) rfl))) (mvT hZ (hw _ (List.mem_of_getElem? (i := 9) rfl))) (by decide) (own_backN (W := 0) (rm_other l Z a0 hw [] wSELL wBUY wSELL h0 n0 Z0 SBUY SSELL) hZ (hw _ (List.mem_of_getElem? (i := 11) rfl)) (hw _ (List.mem_of_getElem? (i := 5) rfl)) (by decide) (by decide)) q111a q111c (g := (mkF m 24 #[.val (.int p1), .val (.ref wBUY), .val (.ref wSELL)] [(.ref wSELL)])) rfl (by rw [hml]; rfl) (Steps.refl _) (argsL := []) (rest := []) (lenOf lw_pd1 rfl) rfl (by show 2 * 0 + _ ≤ _; exact Nat.le_of_eq rfl) (hb hby at_24) (fun _ _ => ⟨rfl, hh110, Nat.le_of_ble_eq_true rfl, Nat.le_of_ble_eq_true rfl⟩)
    dsimp only [Pt.U, Pt.locs, Pt.cells, Pt.slots] at X111 l111 y111 z111 st111 hQ111
    subst l111 y111 z111
    rw [if_neg hne] at hQ111
    obtain ⟨rfl, N111q, hh111⟩ := hQ111
    refine own_seq st111 ?_
    have N111 := Fr.app N110 N111q
    show OwnGo p e below (T111.setTop (mkF m 27 #[.val (.int p1), .val (.ref wBUY), .val (.ref wSELL)] [(.ref wBUY)])) _
    refine own_back (fun t k => XS.aloadN X111.here hx rfl (hb hby at_27) rfl rfl k) ?_
    show OwnGo p e below (T111.setTop (mkF m 28 #[.val (.int p1), .val (.ref wBUY), .val (.ref wSELL)] [(.ref wBUY), (.ref wBUY)])) _
    refine own_back (fun t k => Jvm.RoadKit.acmp (g := (mkF m 28 #[.val (.int p1), .val (.ref wBUY), .val (.ref wSELL)] [(.ref wBUY), (.ref wBUY)])) X111 hx rfl rfl rfl (pc0 := 28) (pc' := 31) (same := true) rfl (hb hby at_28) rfl (decide_eq_true rfl) (by decide) (by decide) k) ?_
    show OwnGo p e below (T111.setTop (mkF m 31 #[.val (.int p1), .val (.ref wBUY), .val (.ref wSELL)] [])) _
    refine own_back (fun t k => XS.iconst X111.here hx rfl (hb hby at_31) k) ?_
    show OwnGo p e below (T111.setTop (mkF m 32 #[.val (.int p1), .val (.ref wBUY), .val (.ref wSELL)] [(.int (1 : Int32))])) _
    refine own_back (fun t k => XS.goto X111.here hx rfl (pc0 := 32) (pc' := 36) rfl (hb hby at_32) (by decide) (by decide) k) ?_
    show OwnGo p e below (T111.setTop (mkF m 36 #[.val (.int p1), .val (.ref wBUY), .val (.ref wSELL)] [(.int (1 : Int32))])) _
    refine own_retN X111 hx Bd.notSynchronized (t := .boolean) (z := (1 : Int32)) Bd.returns (by simp) rfl (hb hby at_36) hh111 (Nat.le_of_ble_eq_true rfl) (Nat.le_of_ble_eq_true rfl) ?_
    exact ⟨rfl, N111⟩
  · obtain ⟨_, _, ⟨T112, L112, k112, n112⟩, -, X112, ⟨Lc112, hQ112, l112, y112, z112⟩, st112⟩ := Jvm.LawKit.callS X0 hx (y := (⟨"com/example/kerbline/kerbline/SideOtherPinLaw", "pick", "(I)Lcom/example/kerbline/kerbline/Side;"⟩ : MethodName)) hown (mvT hZ (hw _ (List.mem_of_getElem? (i := 0) rfl))) (mvT hZ (hw _ (List.mem_of_getElem? (i := 1) rfl))) (mvT hZ (hw _ (List.mem_of_getElem? (i := 2) rfl))) (mvT hZ (hw _ (List.mem_of_getElem? (i := 3) rfl))) (by decide) (own_backN (W := 0) (rm_pick l Z a0 hw [] p1 wBUY wSELL h0 n0 Z0 SBUY SSELL) hZ (hw _ (List.mem_of_getElem? (i := 3) rfl)) (hw _ (List.mem_of_getElem? (i := 2) rfl)) (by decide) (by decide)) (g := (mkF m 1 #[.val (.int p1), .unset, .unset] [(.int p1)])) rfl (by rw [hml]; rfl) (argsL := [(.int p1)]) (rest := []) (lenOf lw_pd0 rfl) rfl (by show 2 * 0 + _ ≤ _; exact Nat.le_of_eq rfl) (hb hby at_1) (fun _ _ => ⟨rfl, e0, Nat.le_of_ble_eq_true rfl, Nat.le_of_ble_eq_true rfl⟩)
    dsimp only [Pt.U, Pt.locs, Pt.cells, Pt.slots] at X112 l112 y112 z112 st112 hQ112
    subst l112 y112 z112
    rw [if_neg hp108] at hQ112
    obtain ⟨rfl, N112q, hh112⟩ := hQ112
    refine own_back st112 ?_
    have N112 := Fr.app N0 N112q
    show OwnGo p e below (T112.setTop (mkF m 4 #[.val (.int p1), .unset, .unset] [(.ref wSELL)])) _
    refine own_back (fun t k => XS.astoreN X112.here hx rfl (hb hby at_4) rfl rfl (l' := #[.val (.int p1), .val (.ref wSELL), .unset]) rfl k) ?_
    show OwnGo p e below (T112.setTop (mkF m 5 #[.val (.int p1), .val (.ref wSELL), .unset] [])) _
    refine own_back (fun t k => XS.aloadN X112.here hx rfl (hb hby at_5) rfl rfl k) ?_
    show OwnGo p e below (T112.setTop (mkF m 6 #[.val (.int p1), .val (.ref wSELL), .unset] [(.ref wSELL)])) _
    obtain ⟨cq113, kq113, q113a, q113b, q113c⟩ := isOf hZ hh112 ESELL
    obtain ⟨_, _, ⟨T113, L113, k113, n113⟩, -, X113, ⟨Lc113, hQ113, l113, y113, z113⟩, st113⟩ := X112.virtualBack hx (y := (⟨"com/example/kerbline/kerbline/Side", "other", "()Lcom/example/kerbline/kerbline/Side;"⟩ : MethodName)) (z := (⟨"com/example/kerbline/kerbline/Side", "other", "()Lcom/example/kerbline/kerbline/Side;"⟩ : MethodName)) hown (mvT hZ (hw _ (List.mem_of_getElem? (i := 7) rfl))) (mvT hZ (hw _ (List.mem_of_getElem? (i := 8) rfl))) (notFace_of_selects (args := #[]) (mvT hZ (hw _ (List.mem_of_getElem? (i := 10) rfl)))) (mvT hZ (hw _ (List.mem_of_getElem? (i := 10) rfl))) (mvT hZ (hw _ (List.mem_of_getElem? (i := 9) rfl))) (by decide) (own_backN (W := 0) (rm_other l Z a0 hw [] wSELL wBUY wSELL h0 n0 Z0 SBUY SSELL) hZ (hw _ (List.mem_of_getElem? (i := 11) rfl)) (hw _ (List.mem_of_getElem? (i := 5) rfl)) (by decide) (by decide)) q113a q113c (g := (mkF m 6 #[.val (.int p1), .val (.ref wSELL), .unset] [(.ref wSELL)])) rfl (by rw [hml]; rfl) (Steps.refl _) (argsL := []) (rest := []) (lenOf lw_pd1 rfl) rfl (by show 2 * 0 + _ ≤ _; exact Nat.le_of_eq rfl) (hb hby at_6) (fun _ _ => ⟨rfl, hh112, Nat.le_of_ble_eq_true rfl, Nat.le_of_ble_eq_true rfl⟩)
    dsimp only [Pt.U, Pt.locs, Pt.cells, Pt.slots] at X113 l113 y113 z113 st113 hQ113
    subst l113 y113 z113
    rw [if_neg hne] at hQ113
    obtain ⟨rfl, N113q, hh113⟩ := hQ113
    refine own_seq st113 ?_
    have N113 := Fr.app N112 N113q
    show OwnGo p e below (T113.setTop (mkF m 9 #[.val (.int p1), .val (.ref wSELL), .unset] [(.ref wBUY)])) _
    refine own_back (fun t k => XS.astoreN X113.here hx rfl (hb hby at_9) rfl rfl (l' := #[.val (.int p1), .val (.ref wSELL), .val (.ref wBUY)]) rfl k) ?_
    show OwnGo p e below (T113.setTop (mkF m 10 #[.val (.int p1), .val (.ref wSELL), .val (.ref wBUY)] [])) _
    refine own_back (fun t k => XS.aloadN X113.here hx rfl (hb hby at_10) rfl rfl k) ?_
    show OwnGo p e below (T113.setTop (mkF m 11 #[.val (.int p1), .val (.ref wSELL), .val (.ref wBUY)] [(.ref wBUY)])) _
    refine own_back (fun t k => XS.ifnonnullYes X113.here hx rfl (pc0 := 11) (pc' := 16) rfl (hb hby at_11) rfl (by decide) (by decide) k) ?_
    show OwnGo p e below (T113.setTop (mkF m 16 #[.val (.int p1), .val (.ref wSELL), .val (.ref wBUY)] [])) _
    refine own_back (fun t k => XS.aloadN X113.here hx rfl (hb hby at_16) rfl rfl k) ?_
    show OwnGo p e below (T113.setTop (mkF m 17 #[.val (.int p1), .val (.ref wSELL), .val (.ref wBUY)] [(.ref wBUY)])) _
    refine own_back (fun t k => XS.aloadN X113.here hx rfl (hb hby at_17) rfl rfl k) ?_
    show OwnGo p e below (T113.setTop (mkF m 18 #[.val (.int p1), .val (.ref wSELL), .val (.ref wBUY)] [(.ref wSELL), (.ref wBUY)])) _
    refine own_back (fun t k => Jvm.RoadKit.acmp (g := (mkF m 18 #[.val (.int p1), .val (.ref wSELL), .val (.ref wBUY)] [(.ref wSELL), (.ref wBUY)])) X113 hx rfl rfl rfl (pc0 := 18) (pc' := 23) (same := false) rfl (hb hby at_18) rfl (decide_eq_false fun q => (Ne.symm hne) (Value.ref.inj q)) (by decide) (by decide) k) ?_
    show OwnGo p e below (T113.setTop (mkF m 23 #[.val (.int p1), .val (.ref wSELL), .val (.ref wBUY)] [])) _
    refine own_back (fun t k => XS.aloadN X113.here hx rfl (hb hby at_23) rfl rfl k) ?_
    show OwnGo p e below (T113.setTop (mkF m 24 #[.val (.int p1), .val (.ref wSELL), .val (.ref wBUY)] [(.ref wBUY)])) _
    obtain ⟨cq114, kq114, q114a, q114b, q114c⟩ := isOf hZ hh113 EBUY
    obtain ⟨_, _, ⟨T114, L114, k114, n114⟩, -, X114, ⟨Lc114, hQ114, l114, y114, z114⟩, st114⟩ := X113.virtualBack hx (y := (⟨"com/example/kerbline/kerbline/Side", "other", "()Lcom/example/kerbline/kerbline/Side;"⟩ : MethodName)) (z := (⟨"com/example/kerbline/kerbline/Side", "other", "()Lcom/example/kerbline/kerbline/Side;"⟩ : MethodName)) hown (mvT hZ (hw _ (List.mem_of_getElem? (i := 7) rfl))) (mvT hZ (hw _ (List.mem_of_getElem? (i := 8) rfl))) (notFace_of_selects (args := #[]) (mvT hZ (hw _ (List.mem_of_getElem? (i := 10) rfl)))) (mvT hZ (hw _ (List.mem_of_getElem? (i := 10) rfl))) (mvT hZ (hw _ (List.mem_of_getElem? (i := 9) rfl))) (by decide) (own_backN (W := 0) (rm_other l Z a0 hw [] wBUY wBUY wSELL h0 n0 Z0 SBUY SSELL) hZ (hw _ (List.mem_of_getElem? (i := 11) rfl)) (hw _ (List.mem_of_getElem? (i := 5) rfl)) (by decide) (by decide)) q114a q114c (g := (mkF m 24 #[.val (.int p1), .val (.ref wSELL), .val (.ref wBUY)] [(.ref wBUY)])) rfl (by rw [hml]; rfl) (Steps.refl _) (argsL := []) (rest := []) (lenOf lw_pd1 rfl) rfl (by show 2 * 0 + _ ≤ _; exact Nat.le_of_eq rfl) (hb hby at_24) (fun _ _ => ⟨rfl, hh113, Nat.le_of_ble_eq_true rfl, Nat.le_of_ble_eq_true rfl⟩)
    dsimp only [Pt.U, Pt.locs, Pt.cells, Pt.slots] at X114 l114 y114 z114 st114 hQ114
    subst l114 y114 z114
    rw [if_pos rfl] at hQ114
    obtain ⟨rfl, N114q, hh114⟩ := hQ114
    refine own_seq st114 ?_
    have N114 := Fr.app N113 N114q
    show OwnGo p e below (T114.setTop (mkF m 27 #[.val (.int p1), .val (.ref wSELL), .val (.ref wBUY)] [(.ref wSELL)])) _
    refine own_back (fun t k => XS.aloadN X114.here hx rfl (hb hby at_27) rfl rfl k) ?_
    show OwnGo p e below (T114.setTop (mkF m 28 #[.val (.int p1), .val (.ref wSELL), .val (.ref wBUY)] [(.ref wSELL), (.ref wSELL)])) _
    refine own_back (fun t k => Jvm.RoadKit.acmp (g := (mkF m 28 #[.val (.int p1), .val (.ref wSELL), .val (.ref wBUY)] [(.ref wSELL), (.ref wSELL)])) X114 hx rfl rfl rfl (pc0 := 28) (pc' := 31) (same := true) rfl (hb hby at_28) rfl (decide_eq_true rfl) (by decide) (by decide) k) ?_
    show OwnGo p e below (T114.setTop (mkF m 31 #[.val (.int p1), .val (.ref wSELL), .val (.ref wBUY)] [])) _
    refine own_back (fun t k => XS.iconst X114.here hx rfl (hb hby at_31) k) ?_
    show OwnGo p e below (T114.setTop (mkF m 32 #[.val (.int p1), .val (.ref wSELL), .val (.ref wBUY)] [(.int (1 : Int32))])) _
    refine own_back (fun t k => XS.goto X114.here hx rfl (pc0 := 32) (pc' := 36) rfl (hb hby at_32) (by decide) (by decide) k) ?_
    show OwnGo p e below (T114.setTop (mkF m 36 #[.val (.int p1), .val (.ref wSELL), .val (.ref wBUY)] [(.int (1 : Int32))])) _
    refine own_retN X114 hx Bd.notSynchronized (t := .boolean) (z := (1 : Int32)) Bd.returns (by simp) rfl (hb hby at_36) hh114 (Nat.le_of_ble_eq_true rfl) (Nat.le_of_ble_eq_true rfl) ?_
    exact ⟨rfl, N114⟩
set_option maxRecDepth 65536 in
set_option maxHeartbeats 40000000 in
theorem comes_1 {Post : Tables → Env → Array Value → State → Outcome → State → Prop} (hpost : ∀ tb e args s v u, (limb_1_1.after args s (.returned v) u = true ∧ limb_1_2.after args s (.returned v) u = true ∧ True) → FrameEnd s (.returned v) u (Jvm.fieldLocs frame_1_writes args s ++ Jvm.arrayLocs frame_1_arrays args s ++ Jvm.staticLocs frame_1_statics s) 0 0 → Post tb e args s (.returned v) u) :
    ArmFor flags0 classFile x code maxLocals ret World_1 tables_1 room_1 Calls_1 rest_1 Pre_1 Post := by
  intro l hfl _ _ p e ha hc hk s m args below hf hA hF happ hP
  obtain ⟨hcalls, hrest, hpre⟩ := hP
  obtain ⟨-, -, -, hnamed, -, -, -, hat⟩ := (Spec.applies_iff hf).mp happ
  obtain ⟨hg, hn⟩ := and_e (Cond.before_iff.mp (show (Jvm.Cond.and given_1 narrow_1).before args s = true from hpre))
  obtain ⟨g1, g2⟩ := and_e hg
  obtain ⟨g3, g4⟩ := and_e hn
  obtain ⟨g5, g6⟩ := and_e g4
  obtain ⟨g7, g8⟩ := and_e g6
  obtain ⟨w0, rfl⟩ : ∃ w0 : Value, args = #[w0] := by
    have hs : args.size = 1 := by simpa [Cond.value, given_1] using g1
    obtain ⟨L⟩ := args
    match L, hs with
    | [w0], _ => exact ⟨w0, rfl⟩
  have hw := fun d (hd : d ∈ tables_1) => atoms_spec (ws := Jvm.Cond.code x code maxLocals ret :: tables_1) hat d (List.mem_cons_of_mem _ hd)
  have hfit : Fit s := fun {y c} hc i hi => by
    obtain ⟨ha, rfl⟩ := Array.getElem?_eq_some_iff.mp hc
    have q := List.all_eq_true.mp ((Array.all_eq_true_iff_forall_mem.mp hF) _ (Array.getElem_mem ha)) i (List.mem_range.mpr hi)
    simpa [Array.getElem?_eq_getElem hi] using q
  obtain ⟨i0, ei0⟩ := is_v g2
  obtain rfl : w0 = (.int i0) := Option.some.inj ei0
  obtain ⟨wBUY, vBUY⟩ := exa_v g3
  have SBUY : Sta s s.heap "com/example/kerbline/kerbline/Side" "BUY" "Lcom/example/kerbline/kerbline/Side;" (.ref wBUY) := Sta.start vBUY (Or.inr ⟨(hw _ (List.mem_of_getElem? (i := 5) rfl)), (hw _ (List.mem_of_getElem? (i := 6) rfl))⟩)
  have EBUY : Exa s s.heap wBUY "com/example/kerbline/kerbline/Side" := Exa.start vBUY g3
  have FBUY : Fld s s.heap wBUY "java/lang/Enum" "ordinal" "I" (.int 0) := Fld.start ((fld_at vBUY).symm.trans (own_eqint g8))
  obtain ⟨wSELL, vSELL⟩ := exa_v g5
  have SSELL : Sta s s.heap "com/example/kerbline/kerbline/Side" "SELL" "Lcom/example/kerbline/kerbline/Side;" (.ref wSELL) := Sta.start vSELL (Or.inr ⟨(hw _ (List.mem_of_getElem? (i := 5) rfl)), (hw _ (List.mem_of_getElem? (i := 14) rfl))⟩)
  have ESELL : Exa s s.heap wSELL "com/example/kerbline/kerbline/Side" := Exa.start vSELL g5
  have FSELL : Fld s s.heap wSELL "java/lang/Enum" "ordinal" "I" (.int 1) := Fld.start ((fld_at vSELL).symm.trans (own_eqint g7))
  obtain ⟨n, o, h1, h2, h3, _, L, rfl, ⟨rfl, N⟩, hq⟩ := rm_law l s _ hw tables_1 i0 wBUY wSELL s.heap s.heap.size (Nat.le_refl _) SBUY SSELL EBUY ESELL (Fld.ne FSELL FBUY (by decide)) p e ha hc hk s m _ below hf ((Spec.applies_iff_loose hf).mp happ).1 ⟨rfl, State.Warmed39.refl s, rfl⟩ trivial
  refine ⟨n, _, h1, h2, h3, hpost _ _ _ _ _ _ ⟨Cond.after_iff.mpr rfl, Cond.after_iff.mpr (eq_i res_at (Term.int_eval (1)) rfl), trivial⟩ ⟨hq.1, hq.2.1, (hq.2.2.sift fun y hy => Or.inr (N y hy)).mono (by decide) (by decide)⟩⟩
theorem main_1_1 : Claimed_1_1 := comes_1 fun _ _ _ _ _ _ h hF => ⟨h.1, hF⟩
theorem main_1_2 : Claimed_1_2 := comes_1 fun _ _ _ _ _ _ h hF => ⟨h.2.1, hF⟩
end Jvm.Pilot.@@N@@
namespace Jvm.Pilot.@@N@@
open Jvm Jvm.ClassFile Sem Op Lib Jvm.Free Jvm.Stand Jvm.Pilot.@@N@@.Jvm.D
/-! MADE BY PROGRAM (witnessworld.py) out of the Statement's table words and the real class files: 12 classes; the members and pool entries that the words name. The judged class is class 1, her method 2. -/
namespace start1
open Jvm.ClassFile
def u (s : String) : CpInfo := .utf8 (stringToUtf16 s)
/-- a pool by its gaps: so many unusable entries, then the entry; so many at the end -/
def gap : Nat → List CpInfo → List CpInfo
  | 0, r => r
  | n + 1, r => .unusable :: gap n r
def poolList (es : List (Nat × CpInfo)) (last : Nat) : List CpInfo := es.foldr (fun e r => gap e.1 (e.2 :: r)) (gap last [])
def pool (es : List (Nat × CpInfo)) (last : Nat) : Array CpInfo := ⟨poolList es last⟩
def fileOf (pool : Array CpInfo) (this : Nat) (attrs : Array Attribute := #[]) (ms : Array MethodInfo := #[]) (fl : Nat := 33) (sup : Nat := 0) (ifs : Array Nat := #[]) (fds : Array FieldInfo := #[]) : ClassFile where
  minorVersion := 0
  majorVersion := 65
  constantPool := pool
  accessFlags := fl
  thisClass := this
  superClass := sup
  interfaces := ifs
  fields := fds
  methods := ms
  attributes := attrs
def plain (name : String) (sup : Option ClassId) : Class where
  name := name
  kind := .ordinary
  loader := none
  accessFlags := 33
  super := sup
  interfaces := #[]
  cf := none
  fields := #[]
  methods := #[]
  instanceTypes := #[]
  staticTypes := #[]
  resolved := #[]
  callSites := []
  init := .initialized
  statics := none
  mirror := none

def pool0 : Array CpInfo := pool [(5, u "<init>"), (0, u "()V"), (1, .class_ 10), (1, u "java/lang/Object")] 113

def k0m0 : Method := { name := "<init>", desc := "()V", sig := { parameters := [], returnType := none }, accessFlags := 1, code := none }
/-- java/lang/Object -/
def k0 : Class := { plain "java/lang/Object" none with
  accessFlags := 33
  interfaces := #[]
  cf := some (fileOf pool0 8 #[] #[{ accessFlags := 1, nameIndex := 5, descriptorIndex := 6, attributes := #[] }] 33 0 #[] #[])
  fields := #[]
  methods := #[k0m0]
  instanceTypes := #[]
  staticTypes := #[]
  resolved := Array.replicate 124 none
  statics := none }

def pool1 : Array CpInfo := pool [(2, .class_ 4), (1, u "java/lang/Object"), (0, u "<init>"), (0, u "()V"), (0, .fieldref 8 9), (0, .class_ 10), (0, .nameAndType 11 12), (0, u "com/example/kerbline/kerbline/Side"), (0, u "SELL"), (0, u "Lcom/example/kerbline/kerbline/Side;"), (0, .fieldref 8 14), (0, .nameAndType 15 12), (0, u "BUY"), (0, .methodref 17 18), (0, .class_ 19), (0, .nameAndType 20 21), (0, u "com/example/kerbline/kerbline/SideOtherPinLaw"), (0, u "pick"), (0, u "(I)Lcom/example/kerbline/kerbline/Side;"), (0, .methodref 8 23), (0, .nameAndType 24 25), (0, u "other"), (0, u "()Lcom/example/kerbline/kerbline/Side;"), (3, u "law"), (0, u "(I)Z")] 2

def k1m0 : Method := { name := "<init>", desc := "()V", sig := { parameters := [], returnType := none }, accessFlags := 1, code := none }
def k1c1 : Code := { maxStack := 2, maxLocals := 1, code := method_2_code, exceptionTable := #[], attributes := #[] }
def k1m1 : Method := { name := "pick", desc := "(I)Lcom/example/kerbline/kerbline/Side;", sig := { parameters := [.int], returnType := some (.object "com/example/kerbline/kerbline/Side") }, accessFlags := 10, code := some k1c1 }
def k1c2 : Code := { maxStack := 2, maxLocals := 3, code := code, exceptionTable := #[], attributes := #[] }
def k1m2 : Method := { name := "law", desc := "(I)Z", sig := { parameters := [.int], returnType := some .boolean }, accessFlags := 9, code := some k1c2 }
/-- com/example/kerbline/kerbline/SideOtherPinLaw -/
def k1 : Class := { plain "com/example/kerbline/kerbline/SideOtherPinLaw" (some 0) with
  accessFlags := 49
  interfaces := #[]
  cf := some (fileOf pool1 17 #[] #[{ accessFlags := 1, nameIndex := 5, descriptorIndex := 6, attributes := #[] }, { accessFlags := 10, nameIndex := 20, descriptorIndex := 21, attributes := #[] }, { accessFlags := 9, nameIndex := 29, descriptorIndex := 30, attributes := #[] }] 49 2 #[] #[])
  fields := #[]
  methods := #[k1m0, k1m1, k1m2]
  instanceTypes := #[]
  staticTypes := #[]
  resolved := Array.replicate 33 none
  statics := none }

def pool2 : Array CpInfo := pool [(1, .class_ 2), (0, u "java/lang/constant/Constable"), (0, .class_ 4), (0, u "java/lang/Object")] 6

/-- java/lang/constant/Constable -/
def k2 : Class := { plain "java/lang/constant/Constable" (some 0) with
  accessFlags := 1537
  interfaces := #[]
  cf := some (fileOf pool2 1 #[] #[] 1537 3 #[] #[])
  fields := #[]
  methods := #[]
  instanceTypes := #[]
  staticTypes := #[]
  resolved := Array.replicate 11 none
  statics := none }

def pool3 : Array CpInfo := pool [(1, .class_ 2), (0, u "java/lang/Comparable"), (0, .class_ 4), (0, u "java/lang/Object")] 7

/-- java/lang/Comparable -/
def k3 : Class := { plain "java/lang/Comparable" (some 0) with
  accessFlags := 1537
  interfaces := #[]
  cf := some (fileOf pool3 1 #[] #[] 1537 3 #[] #[])
  fields := #[]
  methods := #[]
  instanceTypes := #[]
  staticTypes := #[]
  resolved := Array.replicate 12 none
  statics := none }

def pool4 : Array CpInfo := pool [(1, .class_ 2), (0, u "java/io/Serializable"), (0, .class_ 4), (0, u "java/lang/Object")] 2

/-- java/io/Serializable -/
def k4 : Class := { plain "java/io/Serializable" (some 0) with
  accessFlags := 1537
  interfaces := #[]
  cf := some (fileOf pool4 1 #[] #[] 1537 3 #[] #[])
  fields := #[]
  methods := #[]
  instanceTypes := #[]
  staticTypes := #[]
  resolved := Array.replicate 7 none
  statics := none }

def pool5 : Array CpInfo := pool [(2, .class_ 4), (1, u "java/lang/Enum"), (0, u "name"), (0, u "Ljava/lang/String;"), (2, u "ordinal"), (0, u "I"), (1, .class_ 14), (1, u "java/lang/Object"), (4, u "hash"), (86, .class_ 108), (1, u "java/lang/Enum$EnumDesc"), (2, .class_ 112), (0, u "java/lang/constant/Constable"), (0, .class_ 114), (0, u "java/lang/Comparable"), (0, .class_ 116), (0, u "java/io/Serializable")] 87

/-- java/lang/Enum -/
def k5 : Class := { plain "java/lang/Enum" (some 0) with
  accessFlags := 1057
  interfaces := #[2, 3, 4]
  cf := some (fileOf pool5 2 #[.nestMembers #[106]] #[] 1057 12 #[111, 113, 115] #[{ accessFlags := 18, nameIndex := 5, descriptorIndex := 6, attributes := #[] }, { accessFlags := 18, nameIndex := 9, descriptorIndex := 10, attributes := #[] }, { accessFlags := 2, nameIndex := 19, descriptorIndex := 10, attributes := #[] }])
  fields := #[{ name := "name", type := (.object "java/lang/String"), accessFlags := 18, slot := 0, constantValue := 0 }, { name := "ordinal", type := .int, accessFlags := 18, slot := 1, constantValue := 0 }, { name := "hash", type := .int, accessFlags := 2, slot := 2, constantValue := 0 }]
  methods := #[]
  instanceTypes := #[(.object "java/lang/String"), .int, .int]
  staticTypes := #[]
  resolved := Array.replicate 204 none
  statics := none }

def pool6 : Array CpInfo := pool [(1, .class_ 2), (0, u "com/example/kerbline/kerbline/Side"), (0, .fieldref 1 4), (0, .nameAndType 5 6), (0, u "BUY"), (0, u "Lcom/example/kerbline/kerbline/Side;"), (0, .fieldref 1 8), (0, .nameAndType 9 6), (0, u "SELL"), (2, u "$VALUES"), (0, u "[Lcom/example/kerbline/kerbline/Side;"), (6, .class_ 22), (1, u "java/lang/Enum"), (8, u "priority"), (0, u "Ljava/util/Comparator;"), (31, u "other"), (0, u "()Lcom/example/kerbline/kerbline/Side;")] 8

def k6c0 : Code := { maxStack := 2, maxLocals := 1, code := prog_32_method_5_code, exceptionTable := #[], attributes := #[] }
def k6m0 : Method := { name := "other", desc := "()Lcom/example/kerbline/kerbline/Side;", sig := { parameters := [], returnType := some (.object "com/example/kerbline/kerbline/Side") }, accessFlags := 0, code := some k6c0 }
/-- com/example/kerbline/kerbline/Side -/
def k6 : Class := { plain "com/example/kerbline/kerbline/Side" (some 5) with
  accessFlags := 16432
  interfaces := #[]
  cf := some (fileOf pool6 1 #[] #[{ accessFlags := 0, nameIndex := 64, descriptorIndex := 65, attributes := #[] }] 16432 20 #[] #[{ accessFlags := 16409, nameIndex := 5, descriptorIndex := 6, attributes := #[] }, { accessFlags := 16409, nameIndex := 9, descriptorIndex := 6, attributes := #[] }, { accessFlags := 18, nameIndex := 31, descriptorIndex := 32, attributes := #[] }, { accessFlags := 4122, nameIndex := 12, descriptorIndex := 13, attributes := #[] }])
  fields := #[{ name := "BUY", type := (.object "com/example/kerbline/kerbline/Side"), accessFlags := 16409, slot := 0, constantValue := 0 }, { name := "SELL", type := (.object "com/example/kerbline/kerbline/Side"), accessFlags := 16409, slot := 1, constantValue := 0 }, { name := "priority", type := (.object "java/util/Comparator"), accessFlags := 18, slot := 3, constantValue := 0 }, { name := "$VALUES", type := (.array (.object "com/example/kerbline/kerbline/Side")), accessFlags := 4122, slot := 2, constantValue := 0 }]
  methods := #[k6m0]
  instanceTypes := #[(.object "java/lang/String"), .int, .int, (.object "java/util/Comparator")]
  staticTypes := #[(.object "com/example/kerbline/kerbline/Side"), (.object "com/example/kerbline/kerbline/Side"), (.array (.object "com/example/kerbline/kerbline/Side"))]
  resolved := Array.replicate 74 none
  statics := some 0 }

def pool7 : Array CpInfo := pool [(1, u "java/lang/Cloneable"), (0, .class_ 1), (0, u "java/lang/Object"), (0, .class_ 3)] 3

/-- java/lang/Cloneable -/
def k7 : Class := { plain "java/lang/Cloneable" (some 0) with
  accessFlags := 1537
  interfaces := #[]
  cf := some (fileOf pool7 2 #[] #[] 1537 4 #[] #[])
  fields := #[]
  methods := #[]
  instanceTypes := #[]
  staticTypes := #[]
  resolved := Array.replicate 8 none
  statics := none }

/-- the primitive byte -/
def k8 : Class := { plain "byte" none with kind := .primitive 'B', accessFlags := 0x411 }
/-- [B -/
def k9 : Class := { plain "[B" (some 0) with kind := .array 8 .byte, interfaces := #[7, 4], accessFlags := 1041 }

/-- the primitive int -/
def k10 : Class := { plain "int" none with kind := .primitive 'I', accessFlags := 0x411 }
/-- [I -/
def k11 : Class := { plain "[I" (some 0) with kind := .array 10 .int, interfaces := #[7, 4], accessFlags := 1041 }

def heap : Heap := #[{ cls := 6, slots := #[.ref 1, .ref 2, .null], vm := .statics 6 },
  { cls := 6, slots := #[.null, .int 0, .int 0, .null], vm := .none },
  { cls := 6, slots := #[.null, .int 1, .int 0, .null], vm := .none }]
def classes : Array Class := #[k0, k1, k2, k3, k4, k5, k6, k7, k8, k9, k10, k11]
def interned : List (Array UInt16 × Addr) := []
def slotsUsed : Nat := 11
def theMethod : MethodId := ⟨1, 2⟩
def args0 : Array Value := #[.int 5]
def aboutOver (below : List Frame) : State where
  vm := { classes := classes, interned := interned.toArray }
  heap := heap
  slotsUsed := slotsUsed
  threads := #[{ frames := .invoking theMethod args0 :: below }]
def below0 : List Frame := [.native { method := ⟨0, 0⟩, args := #[] }]
def about1 : State := aboutOver below0
def p0 : Program := .bare "" "" ""
def e0 : Env := launch0.env 0 0 0
theorem w_frames : about1.frames = Frame.invoking theMethod args0 :: below0 := rfl
set_option maxRecDepth 65536 in
theorem w_args : argsFit about1.vm theMethod args0 = true := by decide +kernel
set_option maxRecDepth 65536 in
theorem w_heap : heapFits about1 = true := by decide +kernel
set_option maxRecDepth 65536 in
theorem w_runnable : about1.curStatus? = some .runnable := by decide +kernel
set_option maxRecDepth 65536 in
theorem w_alone : about1.alone = true := by decide +kernel
set_option maxRecDepth 65536 in
theorem w_named : about1.methodNamed? x = some theMethod := by decide +kernel
set_option maxRecDepth 65536 in
theorem w_hears : about1.hears theMethod below0 = true := by decide +kernel
set_option maxRecDepth 65536 in
theorem w_ripe : about1.ripe theMethod args0 below0 = true := by decide +kernel
theorem w_running : about1.status = .running := rfl
set_option maxRecDepth 65536 in
theorem w_room : about1.hasRoom e0.platform room_1 = true :=
  launch0.hasRoom_least _ room_1 (by decide +kernel) (by decide +kernel) (by decide +kernel) (by decide +kernel) (by decide +kernel) (by decide +kernel)
theorem allAtoms_all (ts : List Jvm.Cond) (a : Array Jvm.Value) (st : Jvm.State) : (allAtoms ts).before a st = ts.all (fun c => c.before a st) := by
  induction ts with
  | nil => rfl
  | cons c t ih =>
    show (Jvm.Cond.and c (allAtoms t)).before a st = _
    rw [Jvm.Cond.before_and, ih, List.all_cons]
def words1 : List Jvm.Cond := Jvm.Cond.code x code maxLocals ret :: tables_1
/-- a 'code' word, met by the world's own term for the bytes: nothing is compared byte by byte -/
theorem code_word {y : MethodName} {bytes : ByteArray} {mx : Nat} {rt : Option FieldType} {a : Array Value} {s : State} {m : MethodId} {meth : Method} {c : Code} (h1 : s.methodNamed? y = some m) (h2 : s.vm.method? m = some meth) (h3 : meth.code = some c) (h4 : c.code = bytes)
    (h5 : (c.maxLocals == mx && c.exceptionTable.isEmpty && decide (c.maxStack ≤ mostOperands) && decide (meth.sig.returnType = rt) && !meth.locks && decide (parseMethodDescriptor y.desc = some meth.sig)) = true) : (Jvm.Cond.code y bytes mx rt).before a s = true := by
  simp only [Bool.and_eq_true, beq_iff_eq, Bool.not_eq_true', decide_eq_true_eq] at h5
  obtain ⟨⟨⟨⟨⟨g1, g2⟩, g3⟩, g4⟩, g5⟩, g6⟩ := h5
  simp [Cond.before, Cond.holds, Cond.value, h1, h2, h3, h4, g1, g2, g3, g4, g5, g6]
def isCode : Jvm.Cond → Bool
  | .code _ _ _ _ => true
  | _ => false
theorem all_split {L : List Jvm.Cond} {P : Jvm.Cond → Bool} (h1 : L.all (fun c => isCode c || P c) = true) (h2 : ∀ c ∈ L.filter isCode, P c = true) : L.all P = true := by
  refine List.all_eq_true.mpr fun c hc => ?_
  have h := List.all_eq_true.mp h1 c hc
  rcases Bool.eq_false_or_eq_true (isCode c) with hi | hi
  · exact h2 c (List.mem_filter.mpr ⟨hc, hi⟩)
  · simpa [hi] using h
set_option maxRecDepth 65536 in
theorem w_c0 : (Jvm.Cond.code x code maxLocals ret).before args0 about1 = true := code_word (m := ⟨1, 2⟩) (meth := k1m2) (c := k1c2) (by decide +kernel) rfl rfl rfl (by decide +kernel)
set_option maxRecDepth 65536 in
theorem w_c1 : (Jvm.Cond.code ({ cls := "com/example/kerbline/kerbline/SideOtherPinLaw", name := "pick", desc := "(I)Lcom/example/kerbline/kerbline/Side;" } : Jvm.MethodName) method_2_code (1 : Nat) (Option.some (Jvm.ClassFile.FieldType.object "com/example/kerbline/kerbline/Side"))).before args0 about1 = true := code_word (m := ⟨1, 1⟩) (meth := k1m1) (c := k1c1) (by decide +kernel) rfl rfl rfl (by decide +kernel)
set_option maxRecDepth 65536 in
theorem w_c2 : (Jvm.Cond.code ({ cls := "com/example/kerbline/kerbline/Side", name := "other", desc := "()Lcom/example/kerbline/kerbline/Side;" } : Jvm.MethodName) prog_32_method_5_code (1 : Nat) (Option.some (Jvm.ClassFile.FieldType.object "com/example/kerbline/kerbline/Side"))).before args0 about1 = true := code_word (m := ⟨6, 0⟩) (meth := k6m0) (c := k6c0) (by decide +kernel) rfl rfl rfl (by decide +kernel)
def codes1 : List Jvm.Cond := [Jvm.Cond.code x code maxLocals ret, Jvm.Cond.code ({ cls := "com/example/kerbline/kerbline/SideOtherPinLaw", name := "pick", desc := "(I)Lcom/example/kerbline/kerbline/Side;" } : Jvm.MethodName) method_2_code (1 : Nat) (Option.some (Jvm.ClassFile.FieldType.object "com/example/kerbline/kerbline/Side")), Jvm.Cond.code ({ cls := "com/example/kerbline/kerbline/Side", name := "other", desc := "()Lcom/example/kerbline/kerbline/Side;" } : Jvm.MethodName) prog_32_method_5_code (1 : Nat) (Option.some (Jvm.ClassFile.FieldType.object "com/example/kerbline/kerbline/Side"))]
set_option maxRecDepth 65536 in
theorem codes_eq : words1.filter isCode = codes1 := rfl
theorem w_codes : ∀ c ∈ words1.filter isCode, c.before args0 about1 = true := by
  rw [codes_eq]
  intro c hc
  simp only [codes1, List.mem_cons, List.not_mem_nil, or_false] at hc
  rcases hc with rfl | rfl | rfl
  · exact w_c0
  · exact w_c1
  · exact w_c2
set_option maxRecDepth 65536 in
theorem w_t1 : words1.all (fun c => isCode c || c.before args0 about1) = true := by decide +kernel
theorem w_tables : (allAtoms (Jvm.Cond.code x code maxLocals ret :: tables_1)).before args0 about1 = true := by
  rw [allAtoms_all]
  show words1.all (fun c => c.before args0 about1) = true
  refine all_split ?_ w_codes
  rw [w_t1]
set_option maxRecDepth 65536 in
theorem w_case : (Jvm.Cond.and given_1 narrow_1).before args0 about1 = true := by decide +kernel
theorem w_applies : (headSpec (Jvm.Cond.code x code maxLocals ret :: tables_1) room_1).applies x e0.platform about1 = true :=
  (Spec.applies_iff w_frames).mpr ⟨w_running, w_runnable, w_alone, w_named, w_hears, w_ripe, w_room, w_tables⟩
theorem atStart : AtStart classFile x code maxLocals ret World_1 tables_1 room_1 Calls_1 rest_1 Pre_1 launch0 p0 e0 about1 theMethod args0 below0 :=
  ⟨lists_1, trivial, launch0.admits_env _ _ _, launch0.least_env, fairChoices_fair.cas, fairChoices_fair.clock, w_frames, w_args, w_heap, w_applies, trivial, trivial, w_case⟩
end start1
theorem witness_1 : WitnessClaimed_1 := ⟨start1.p0, start1.e0, start1.about1, start1.theMethod, start1.args0, start1.below0, start1.atStart⟩
end Jvm.Pilot.@@N@@
