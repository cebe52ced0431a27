import JvmDerived
import JvmDerived.Pilot.@@N@@Statement
import JvmDerived.Pilot.@@N@@Code
set_option linter.unusedVariables false
set_option linter.unusedSimpArgs false
namespace Jvm.RoadKit
open Sem ClassFile Op Lib Jvm.Stand Jvm.Free Jvm.LawKit
section OwnNew
variable {p : Program} {l : Launch} {e : Env} {R : Room} {s : State} {m : MethodId} {args : Array Value} {below : List Frame} {meth : Method} {c : Code} {T : State} {locs : List Loc} {cells slots : Nat} {h : Heap}
/-- from S the run comes to an end of which Q holds -/
def OwnGo (p : Program) (e : Env) (below : List Frame) (S : State) (Q : Outcome → State → Prop) : Prop :=
  ∃ s₂ o, Steps p.tables e below S s₂ ∧ s₂.status = .running ∧ Ended s₂ below o ∧ Q o s₂
theorem own_go {S : State} {Q : Outcome → State → Prop} (k : OwnGo p e below S Q) : ∃ s₂ o, Steps p.tables e below S s₂ ∧ s₂.status = .running ∧ Ended s₂ below o ∧ Q o s₂ := k
theorem own_back {S S' : State} {Q : Outcome → State → Prop} (h : ∀ t, Steps p.tables e below S' t → Steps p.tables e below S t) (k : OwnGo p e below S' Q) : OwnGo p e below S Q := by
  obtain ⟨s2, o, h1, h2⟩ := k
  exact ⟨s2, o, h _ h1, h2⟩
theorem own_seq {S S' : State} {Q : Outcome → State → Prop} (h : Steps p.tables e below S S') (k : OwnGo p e below S' Q) : OwnGo p e below S Q := own_back (fun _ ht => h.trans ht) k
abbrev OwnEnd (s : State) (Qf : Option Value → Heap → List Loc → Prop) (C S : Nat) : Outcome → State → Prop := fun o U' => ∃ v L, o = .returned v ∧ Qf v U'.heap L ∧ FrameEnd s o U' L C S
theorem own_end (X : Stand p l e R s m args below meth c T locs cells slots) (hlocks : meth.locks = false) {v : Option Value} (hv : meth.sig.returnType = none → v = none) {S : State} {Qf : Option Value → Heap → List Loc → Prop} {C Sl : Nat} (eT : T.heap = h) (hc : cells ≤ C) (hs : slots ≤ Sl) (hq : Qf v h locs)
    (step : ∀ fs : List Frame, (∀ (f : JFrame) (acts : List Action), f.method = m → f.locked = none → f.entered = [] → (doReturn e (T.setTop f) acts v).1 = T.setFrames fs) → Steps p.tables e below S (T.setFrames fs)) : OwnGo p e below S (OwnEnd s Qf C Sl) := by
  obtain ⟨fs, hr, hrun, hended, hW, hsame⟩ := X.leave (v := v) hv hlocks
  refine ⟨_, _, step fs hr, hrun, hended, v, locs, rfl, ?_, ⟨_, rfl⟩, hW, hsame.mono hc hs⟩
  show Qf v T.heap locs
  rw [eT]; exact hq
theorem own_backN {Z : State} {a0 : Array Value} {y : MethodName} {bytes : ByteArray} {maxL : Nat} {ret : Option FieldType} {rm : Room} {len W : Nat} {as' : Array Value} {Q : Option Value → Heap → List Loc → Prop}
    (hM : MetFree l y (head1 [Cond.code y bytes maxL ret] rm) (fun a U => a = as' ∧ Z.Warmed39 U.vm ∧ U.heap = h) (fun _ _ _ _ _ => True) (fun _ U o U' => OwnEnd U Q rm.cells rm.slots o U'))
    (hZ : Z.Warmed39 s.vm) (wc : (Cond.code y bytes maxL ret).before a0 Z = true) (wz : (Cond.initialized y.cls).before a0 Z = true) (hf : rm.frames + 1 ≤ R.frames) (hl : W + (maxL + 11) + rm.locals ≤ R.locals) :
    Back l R p e below s args y len W (fun A a => a = as' ∧ A.U.heap = h ∧ A.cells + rm.cells ≤ R.cells ∧ A.slots + rm.slots ≤ R.slots)
      (fun A _ v B => ∃ L, Q v B.U.heap L ∧ B.locs = A.locs ++ L ∧ B.cells = A.cells + rm.cells ∧ B.slots = A.slots + rm.slots) := backOf (Q := Q) hM hZ wc wz hf hl
theorem own_retN (X : Stand p l e R s m args below meth c T locs cells slots) (hx : p.tables.exec = Jvm.exec) (hlocks : meth.locks = false) {pc : Nat} {Ls : Array Slot} {z : Int32} {t : FieldType} {rest : List Value} (hret : meth.sig.returnType = some t) (ht : t = .boolean ∨ t = .byte ∨ t = .char ∨ t = .short) (hn : nar t z = z)
    (hd : decode c.code pc = .ok (.ireturn, 1)) {Qf : Option Value → Heap → List Loc → Prop} {C Sl : Nat} (eT : T.heap = h) (hc : cells ≤ C) (hs : slots ≤ Sl) (hq : Qf (some (.int z)) h locs) : OwnGo p e below (T.setTop (mkF m pc Ls (.int z :: rest))) (OwnEnd s Qf C Sl) :=
  own_end X hlocks (fun h => by rw [hret] at h; cases h) eT hc hs hq fun fs hr => retN X hx hret ht hd (by rw [hn]; exact hr)
theorem own_retI (X : Stand p l e R s m args below meth c T locs cells slots) (hx : p.tables.exec = Jvm.exec) (hlocks : meth.locks = false) {pc : Nat} {Ls : Array Slot} {z : Int32} {rest : List Value} (hret : meth.sig.returnType = some .int)
    (hd : decode c.code pc = .ok (.ireturn, 1)) {Qf : Option Value → Heap → List Loc → Prop} {C Sl : Nat} (eT : T.heap = h) (hc : cells ≤ C) (hs : slots ≤ Sl) (hq : Qf (some (.int z)) h locs) : OwnGo p e below (T.setTop (mkF m pc Ls (.int z :: rest))) (OwnEnd s Qf C Sl) :=
  own_end X hlocks (fun h => by rw [hret] at h; cases h) eT hc hs hq fun fs hr => retOut X hx hret rfl (Or.inl ⟨rfl, Or.inl rfl, z, rfl⟩) hd hr
theorem own_retJ (X : Stand p l e R s m args below meth c T locs cells slots) (hx : p.tables.exec = Jvm.exec) (hlocks : meth.locks = false) {pc : Nat} {Ls : Array Slot} {z : Int64} {rest : List Value} (hret : meth.sig.returnType = some .long)
    (hd : decode c.code pc = .ok (.lreturn, 1)) {Qf : Option Value → Heap → List Loc → Prop} {C Sl : Nat} (eT : T.heap = h) (hc : cells ≤ C) (hs : slots ≤ Sl) (hq : Qf (some (.long z)) h locs) : OwnGo p e below (T.setTop (mkF m pc Ls (.long z :: rest))) (OwnEnd s Qf C Sl) :=
  own_end X hlocks (fun h => by rw [hret] at h; cases h) eT hc hs hq fun fs hr => retOut X hx hret rfl (Or.inr (Or.inl ⟨rfl, rfl, z, rfl⟩)) hd hr
theorem own_narA {t : FieldType} {w : Value} (h : w.isRef = true) : narrow t w = w := by
  rcases ref_cases h with rfl | ⟨a, rfl⟩ <;> cases t <;> rfl
theorem own_retA (X : Stand p l e R s m args below meth c T locs cells slots) (hx : p.tables.exec = Jvm.exec) (hlocks : meth.locks = false) {pc : Nat} {Ls : Array Slot} {w : Value} {t : FieldType} {rest : List Value} (hret : meth.sig.returnType = some t) (ht : t.isReference = true) (hw : w.isRef = true)
    (hd : decode c.code pc = .ok (.areturn, 1)) {Qf : Option Value → Heap → List Loc → Prop} {C Sl : Nat} (eT : T.heap = h) (hc : cells ≤ C) (hs : slots ≤ Sl) (hq : Qf (some w) h locs) : OwnGo p e below (T.setTop (mkF m pc Ls (w :: rest))) (OwnEnd s Qf C Sl) :=
  own_end X hlocks (fun h => by rw [hret] at h; cases h) eT hc hs hq fun fs hr => retOut X hx hret (own_narA hw) (Or.inr (Or.inr (Or.inr (Or.inr ⟨rfl, ht, hw⟩)))) hd hr
theorem own_retV (X : Stand p l e R s m args below meth c T locs cells slots) (hx : p.tables.exec = Jvm.exec) (hlocks : meth.locks = false) {pc : Nat} {Ls : Array Slot} (hret : meth.sig.returnType = none)
    (hd : decode c.code pc = .ok (.return_, 1)) {Qf : Option Value → Heap → List Loc → Prop} {C Sl : Nat} (eT : T.heap = h) (hc : cells ≤ C) (hs : slots ≤ Sl) (hq : Qf none h locs) : OwnGo p e below (T.setTop (mkF m pc Ls [])) (OwnEnd s Qf C Sl) :=
  own_end X hlocks (fun _ => rfl) eT hc hs hq fun fs hr => X.returnOut hx hret hd hr
end OwnNew
section OwnTerms
variable {args : Array Value} {first s : State} {o : Option Outcome} {idx : List Nat} {t u : Term}
theorem own_eqint {k : Int32} (h : (Cond.eq t (.int k)).value args first o s idx = some true) : t.eval args first o idx s = some (.int k) := by
  cases ha : t.eval args first o idx s with
  | none => simp [Cond.value, ha] at h
  | some x =>
    have hb : (Term.int k).eval args first o idx s = some (.int k) := Term.int_eval k
    cases x <;> simp [Cond.value, ha, hb, Value.isRef] at h ⊢
    exact h
theorem own_eqref {w : Addr} (hu : u.eval args first o idx s = some (.ref w)) (h : (Cond.eq t u).value args first o s idx = some true) : t.eval args first o idx s = some (.ref w) := by
  cases ha : t.eval args first o idx s with
  | none => simp [Cond.value, ha] at h
  | some x =>
    cases x <;> simp [Cond.value, ha, hu, Value.isRef] at h ⊢
    exact h
end OwnTerms
section OwnArr
variable {s : State} {args : Array Value} {t u : Term} {a : Addr} {c : Cell} {ty : FieldType}
theorem own_nat32 {n : Nat} (h : n < 2 ^ 31) : n.toInt32.toNatClampNeg = n := by
  have e : n.toInt32.toInt = n := Int32.toInt_ofNat_of_lt h
  have := nat_of (j := n.toInt32) (by rw [Int32.lt_iff_toInt_lt, e]; have z : (0 : Int32).toInt = 0 := rfl; omega)
  omega
theorem own_len {n : Int32} (A : Arr s s.heap a c ty) (et : t.eval args s none [] s = some (.ref a)) (h : (Cond.eq (.length t) (.int n)).value args s none s [] = some true) {k : Nat} (hk : n.toNatClampNeg = k := by rfl) : c.slots.size = k := by
  have e := own_eqint h
  have ha : s.arrayAt? a = some c := IntBox.arrayAt_of A.1 A.2.1 A.2.2
  by_cases hl : c.slots.size < 2 ^ 31
  · rw [len_f et ha hl] at e
    have e2 : c.slots.size.toInt32 = n := by injection e with e; injection e
    rw [← hk, ← e2]
    exact (own_nat32 hl).symm
  · simp [Term.eval, et, ha, hl] at e
theorem own_elem {j k : Int32} (A : Arr s s.heap a c ty) (et : t.eval args s none [] s = some (.ref a)) (h : (Cond.eq (.elem t (.int j)) (.int k)).value args s none s [] = some true) (hj : ¬ j < 0) : c.slots[j.toNatClampNeg]? = some (.int k) := by
  have e := own_eqint h
  have ha : s.arrayAt? a = some c := IntBox.arrayAt_of A.1 A.2.1 A.2.2
  rw [elem_f et (Term.int_eval j) ha hj] at e
  exact e
theorem own_elemR {j : Int32} {w : Addr} (A : Arr s s.heap a c ty) (et : t.eval args s none [] s = some (.ref a)) (hu : u.eval args s none [] s = some (.ref w)) (h : (Cond.eq (.elem t (.int j)) u).value args s none s [] = some true) (hj : ¬ j < 0) : c.slots[j.toNatClampNeg]? = some (.ref w) := by
  have e := own_eqref hu h
  have ha : s.arrayAt? a = some c := IntBox.arrayAt_of A.1 A.2.1 A.2.2
  rw [elem_f et (Term.int_eval j) ha hj] at e
  exact e
end OwnArr
section OwnMore
variable {Z : State} {h h' : Heap}
theorem own_arr_ne {a b : Addr} {c d : Cell} {t u : FieldType} (A : Arr Z h a c t) (B : Arr Z h b d u) (q : t ≠ u) : a ≠ b := fun e => by
  subst e
  cases A.1.symm.trans B.1
  obtain ⟨-, k1, h1, cp1, h2⟩ := A.2.1
  obtain ⟨-, k2, h3, cp2, h4⟩ := B.2.1
  cases h1.symm.trans h3
  rw [h2] at h4
  injection h4 with _ h5
  exact q h5
theorem own_arv_ne {a b : Addr} {k k' : ClassId} {t u : FieldType} {z z' : Int32} {vs vs' : List Value} {d d' : Value} (A : Arv Z h a k t z vs d) (B : Arv Z h b k' u z' vs' d') (q : t ≠ u) : a ≠ b := by
  obtain ⟨c, A, -⟩ := A
  obtain ⟨c', B, -⟩ := B
  exact own_arr_ne A B q
theorem own_ext (K : Keep h h' []) : Ext h h' := ⟨K.1, fun x c q => K.2.1 x c q nin0⟩
theorem own_fitA {t : FieldType} {w : Value} (hw : w.isRef = true) (ht : t.isReference = true := by rfl) : fits t w = true := by
  rcases ref_cases hw with rfl | ⟨a, rfl⟩ <;> cases t <;> first | rfl | cases ht
end OwnMore
section OwnRem
variable {p : Program} {l : Launch} {e : Env} {R : Room} {s : State} {m : MethodId} {args : Array Value} {below : List Frame} {meth : Method} {c : Code} {T : State} {locs : List Loc} {cells slots : Nat}
theorem own_lrem {g : JFrame} {target : State} (X : Stand p l e R s m args below meth c T locs cells slots) (hx : p.tables.exec = Jvm.exec) (hg : g.method = m) {x y : Int64} {rest : List Value} (hd : decode c.code g.pc = .ok (.lrem, 1)) (hs : g.stack = .long y :: .long x :: rest) (hy : y ≠ 0)
    (hr : Steps p.tables e below (T.setTop { g with pc := g.pc + 1, stack := .long (x % y) :: rest }) target) : Steps p.tables e below (T.setTop g) target :=
  XS.lrem X.here hx hg hd hs hy (by rw [lrem_mod]; exact hr)
end OwnRem
end Jvm.RoadKit
namespace Jvm.Pilot.@@N@@
open Jvm Jvm.ClassFile Sem Op Lib Jvm.Free Jvm.Stand Jvm.LawKit Jvm.RoadKit Bundle Jvm.Pilot.@@N@@.Jvm.D
theorem il_d0 : decode prog_1_method_5_code 0 = .ok (.aload_n 0, 1) := by decide +kernel
theorem il_d1 : decode prog_1_method_5_code 1 = .ok (.getstatic 10, 3) := by decide +kernel
theorem il_d4 : decode prog_1_method_5_code 4 = .ok (.if_acmp .eq 10, 3) := by decide +kernel
theorem il_d7 : decode prog_1_method_5_code 7 = .ok (.aload_n 0, 1) := by decide +kernel
theorem il_d8 : decode prog_1_method_5_code 8 = .ok (.getstatic 13, 3) := by decide +kernel
theorem il_d11 : decode prog_1_method_5_code 11 = .ok (.if_acmp .ne 7, 3) := by decide +kernel
theorem il_d14 : decode prog_1_method_5_code 14 = .ok (.iconst 1, 1) := by decide +kernel
theorem il_d15 : decode prog_1_method_5_code 15 = .ok (.goto 4, 3) := by decide +kernel
theorem il_d18 : decode prog_1_method_5_code 18 = .ok (.iconst 0, 1) := by decide +kernel
theorem il_d19 : decode prog_1_method_5_code 19 = .ok (.ireturn, 1) := by decide +kernel
theorem il_pn : plainName "com/example/hour_ending/hourending/calendar/Anchor" = true := by first | (simp [plainName, overriddenIn]; done) | decide +kernel
theorem il_ef (m : MethodId) (x0 : Addr) : entryFrame m #[(.ref x0)] 1 = mkF m 0 #[.val (.ref x0)] [] := by first | (simp [entryFrame, mkF, argsToLocals, Value.category]; done) | rfl
set_option maxRecDepth 65536 in
set_option maxHeartbeats 40000000 in
theorem rm_is (l : Launch) (Z : State) (a0 : Array Value) (hw : ∀ d ∈ tables_1, d.before a0 Z = true) (ws : List Jvm.Cond) (a1 : Addr) (wLAST_TRADING_DAY : Addr) (wLAST_TRADING_DAY_LISTED_MONTHS_EARLIER : Addr) (h0 : Heap) (n0 : Nat) (Z0 : n0 ≤ h0.size) (SLAST_TRADING_DAY : Sta Z h0 "com/example/hour_ending/hourending/calendar/Anchor" "LAST_TRADING_DAY" "Lcom/example/hour_ending/hourending/calendar/Anchor;" (.ref wLAST_TRADING_DAY)) (SLAST_TRADING_DAY_LISTED_MONTHS_EARLIER : Sta Z h0 "com/example/hour_ending/hourending/calendar/Anchor" "LAST_TRADING_DAY_LISTED_MONTHS_EARLIER" "Lcom/example/hour_ending/hourending/calendar/Anchor;" (.ref wLAST_TRADING_DAY_LISTED_MONTHS_EARLIER)) :
    MetFree l (⟨"com/example/hour_ending/hourending/calendar/Anchor", "isLastTradingDay", "()Z"⟩ : MethodName) (head1 (Jvm.Cond.code (⟨"com/example/hour_ending/hourending/calendar/Anchor", "isLastTradingDay", "()Z"⟩ : MethodName) prog_1_method_5_code 1 (some .boolean) :: ws) ({ frames := 0, cells := 0, slots := 0, locals := 0 } : Room)) (fun a U => a = #[(.ref a1)] ∧ Z.Warmed39 U.vm ∧ U.heap = h0) (fun _ _ _ _ _ => True) (fun _ U o U' => OwnEnd U (fun v h L => v = some (.int (if a1 = wLAST_TRADING_DAY ∨ a1 = wLAST_TRADING_DAY_LISTED_MONTHS_EARLIER then 1 else 0)) ∧ Fr n0 L ∧ h = h0) ({ frames := 0, cells := 0, slots := 0, locals := 0 } : Room).cells ({ frames := 0, cells := 0, slots := 0, locals := 0 } : Room).slots o U') := by
  refine MetFree.of_bodySF (plainFor_of_name il_pn) hisR ?_
  intro p e s m args below meth c s₁ Bd hml0 hP hK
  obtain ⟨rfl, hZ, hh⟩ := hP
  have hx := Bd.exec
  have hby := Bd.bytes
  have hml : c.maxLocals = 1 := hml0
  have hown : s.vm.findClass "com/example/hour_ending/hourending/calendar/Anchor" = some m.cls := findClass_of_methodNamed Bd.named
  have hnm := (name_of_methodNamed Bd.named Bd.method).1
  have X0 : Stand p l e ({ frames := 0, cells := 0, slots := 0, locals := 0 } : Room) s m #[(.ref a1)] below meth c s₁ [] 0 0 := Stand.of_body Bd
  have e0 : s₁.heap = h0 := by rw [← hh, Bd.state]; rfl
  have N0 := Fr.nil n0
  have KP0 := Keep.refl h0 []
  refine own_go (Q := (OwnEnd s (fun v h L => v = some (.int (if a1 = wLAST_TRADING_DAY ∨ a1 = wLAST_TRADING_DAY_LISTED_MONTHS_EARLIER then 1 else 0)) ∧ Fr n0 L ∧ h = h0) ({ frames := 0, cells := 0, slots := 0, locals := 0 } : Room).cells ({ frames := 0, cells := 0, slots := 0, locals := 0 } : Room).slots)) ?_
  refine own_back (fun t k => castTop (il_ef m a1) k) ?_
  show OwnGo p e below (s₁.setTop (mkF m 0 #[.val (.ref a1)] [])) _
  refine own_back (fun t k => XS.aloadN X0.here hx rfl (hb hby il_d0) rfl rfl k) ?_
  show OwnGo p e below (s₁.setTop (mkF m 1 #[.val (.ref a1)] [(.ref a1)])) _
  obtain ⟨T101, X101, e101, st101⟩ := getS2 X0 hx hZ hown (host := "") (Or.inl (hw _ (List.mem_of_getElem? (i := 8) rfl))) Via.refl e0 SLAST_TRADING_DAY (g := (mkF m 1 #[.val (.ref a1)] [(.ref a1)])) rfl (hb hby il_d1)
  refine own_back st101 ?_
  show OwnGo p e below (T101.setTop (mkF m 4 #[.val (.ref a1)] [(.ref wLAST_TRADING_DAY), (.ref a1)])) _
  by_cases ha4_102 : a1 = wLAST_TRADING_DAY
  · refine own_back (fun t k => Jvm.RoadKit.acmp (g := (mkF m 4 #[.val (.ref a1)] [(.ref wLAST_TRADING_DAY), (.ref a1)])) X101 hx rfl rfl rfl (pc0 := 4) (pc' := 14) (same := true) rfl (hb hby il_d4) rfl (decide_eq_true (congrArg Value.ref ha4_102)) (by decide) (by decide) k) ?_
    show OwnGo p e below (T101.setTop (mkF m 14 #[.val (.ref a1)] [])) _
    refine own_back (fun t k => XS.iconst X101.here hx rfl (hb hby il_d14) k) ?_
    show OwnGo p e below (T101.setTop (mkF m 15 #[.val (.ref a1)] [(.int (1 : Int32))])) _
    refine own_back (fun t k => XS.goto X101.here hx rfl (pc0 := 15) (pc' := 19) rfl (hb hby il_d15) (by decide) (by decide) k) ?_
    show OwnGo p e below (T101.setTop (mkF m 19 #[.val (.ref a1)] [(.int (1 : Int32))])) _
    refine own_retN X101 hx Bd.notSynchronized (t := .boolean) (z := (1 : Int32)) Bd.returns (by simp) rfl (hb hby il_d19) e101 (Nat.le_of_ble_eq_true rfl) (Nat.le_of_ble_eq_true rfl) ?_
    exact ⟨by simp [ha4_102], N0, rfl⟩
  · refine own_back (fun t k => Jvm.RoadKit.acmp (g := (mkF m 4 #[.val (.ref a1)] [(.ref wLAST_TRADING_DAY), (.ref a1)])) X101 hx rfl rfl rfl (pc0 := 4) (pc' := 7) (same := false) rfl (hb hby il_d4) rfl (decide_eq_false fun q => ha4_102 (Value.ref.inj q)) (by decide) (by decide) k) ?_
    show OwnGo p e below (T101.setTop (mkF m 7 #[.val (.ref a1)] [])) _
    refine own_back (fun t k => XS.aloadN X101.here hx rfl (hb hby il_d7) rfl rfl k) ?_
    show OwnGo p e below (T101.setTop (mkF m 8 #[.val (.ref a1)] [(.ref a1)])) _
    obtain ⟨T103, X103, e103, st103⟩ := getS2 X101 hx hZ hown (host := "") (Or.inl (hw _ (List.mem_of_getElem? (i := 10) rfl))) Via.refl e101 SLAST_TRADING_DAY_LISTED_MONTHS_EARLIER (g := (mkF m 8 #[.val (.ref a1)] [(.ref a1)])) rfl (hb hby il_d8)
    refine own_back st103 ?_
    show OwnGo p e below (T103.setTop (mkF m 11 #[.val (.ref a1)] [(.ref wLAST_TRADING_DAY_LISTED_MONTHS_EARLIER), (.ref a1)])) _
    by_cases ha11_104 : a1 = wLAST_TRADING_DAY_LISTED_MONTHS_EARLIER
    · refine own_back (fun t k => Jvm.RoadKit.acmp (g := (mkF m 11 #[.val (.ref a1)] [(.ref wLAST_TRADING_DAY_LISTED_MONTHS_EARLIER), (.ref a1)])) X103 hx rfl rfl rfl (pc0 := 11) (pc' := 14) (same := true) rfl (hb hby il_d11) rfl (decide_eq_true (congrArg Value.ref ha11_104)) (by decide) (by decide) k) ?_
      show OwnGo p e below (T103.setTop (mkF m 14 #[.val (.ref a1)] [])) _
      refine own_back (fun t k => XS.iconst X103.here hx rfl (hb hby il_d14) k) ?_
      show OwnGo p e below (T103.setTop (mkF m 15 #[.val (.ref a1)] [(.int (1 : Int32))])) _
      refine own_back (fun t k => XS.goto X103.here hx rfl (pc0 := 15) (pc' := 19) rfl (hb hby il_d15) (by decide) (by decide) k) ?_
      show OwnGo p e below (T103.setTop (mkF m 19 #[.val (.ref a1)] [(.int (1 : Int32))])) _
      refine own_retN X103 hx Bd.notSynchronized (t := .boolean) (z := (1 : Int32)) Bd.returns (by simp) rfl (hb hby il_d19) e103 (Nat.le_of_ble_eq_true rfl) (Nat.le_of_ble_eq_true rfl) ?_
      exact ⟨by simp [ha4_102, ha11_104], N0, rfl⟩
    · refine own_back (fun t k => Jvm.RoadKit.acmp (g := (mkF m 11 #[.val (.ref a1)] [(.ref wLAST_TRADING_DAY_LISTED_MONTHS_EARLIER), (.ref a1)])) X103 hx rfl rfl rfl (pc0 := 11) (pc' := 18) (same := false) rfl (hb hby il_d11) rfl (decide_eq_false fun q => ha11_104 (Value.ref.inj q)) (by decide) (by decide) k) ?_
      show OwnGo p e below (T103.setTop (mkF m 18 #[.val (.ref a1)] [])) _
      refine own_back (fun t k => XS.iconst X103.here hx rfl (hb hby il_d18) k) ?_
      show OwnGo p e below (T103.setTop (mkF m 19 #[.val (.ref a1)] [(.int (0 : Int32))])) _
      refine own_retN X103 hx Bd.notSynchronized (t := .boolean) (z := (0 : Int32)) Bd.returns (by simp) rfl (hb hby il_d19) e103 (Nat.le_of_ble_eq_true rfl) (Nat.le_of_ble_eq_true rfl) ?_
      exact ⟨by simp [ha4_102, ha11_104], N0, rfl⟩
theorem lw_pn : plainName "com/example/hour_ending/hourending/calendar/AnchorIsLastTradingDayPinLaw" = true := by first | (simp [plainName, overriddenIn]; done) | decide +kernel
theorem lw_pd0 : parseMethodDescriptor "()Z" = some ⟨[], some .boolean⟩ := by decide +kernel
theorem lw_ef (m : MethodId) (x0 : Int32) : entryFrame m #[(.int x0)] maxLocals = mkF m 0 #[.val (.int x0), .unset, .unset, .unset] [] := by first | (simp [entryFrame, mkF, argsToLocals, Value.category, maxLocals]; done) | rfl
set_option maxRecDepth 65536 in
set_option maxHeartbeats 40000000 in
theorem rm_law (l : Launch) (Z : State) (a0 : Array Value) (hw : ∀ d ∈ tables_1, d.before a0 Z = true) (ws : List Jvm.Cond) (p1 : Int32) (wDELIVERY_START : Addr) (wLAST_TRADING_DAY : Addr) (wLAST_TRADING_DAY_LISTED_MONTHS_EARLIER : Addr) (wDELIVERY_END : Addr) (h0 : Heap) (n0 : Nat) (Z0 : n0 ≤ h0.size) (SDELIVERY_START : Sta Z h0 "com/example/hour_ending/hourending/calendar/Anchor" "DELIVERY_START" "Lcom/example/hour_ending/hourending/calendar/Anchor;" (.ref wDELIVERY_START)) (SLAST_TRADING_DAY : Sta Z h0 "com/example/hour_ending/hourending/calendar/Anchor" "LAST_TRADING_DAY" "Lcom/example/hour_ending/hourending/calendar/Anchor;" (.ref wLAST_TRADING_DAY)) (SLAST_TRADING_DAY_LISTED_MONTHS_EARLIER : Sta Z h0 "com/example/hour_ending/hourending/calendar/Anchor" "LAST_TRADING_DAY_LISTED_MONTHS_EARLIER" "Lcom/example/hour_ending/hourending/calendar/Anchor;" (.ref wLAST_TRADING_DAY_LISTED_MONTHS_EARLIER)) (SDELIVERY_END : Sta Z h0 "com/example/hour_ending/hourending/calendar/Anchor" "DELIVERY_END" "Lcom/example/hour_ending/hourending/calendar/Anchor;" (.ref wDELIVERY_END)) (EDELIVERY_START : Exa Z h0 wDELIVERY_START "com/example/hour_ending/hourending/calendar/Anchor") (ELAST_TRADING_DAY : Exa Z h0 wLAST_TRADING_DAY "com/example/hour_ending/hourending/calendar/Anchor") (ELAST_TRADING_DAY_LISTED_MONTHS_EARLIER : Exa Z h0 wLAST_TRADING_DAY_LISTED_MONTHS_EARLIER "com/example/hour_ending/hourending/calendar/Anchor") (EDELIVERY_END : Exa Z h0 wDELIVERY_END "com/example/hour_ending/hourending/calendar/Anchor") (nDELIVERY_START1 : ¬ wDELIVERY_START = wLAST_TRADING_DAY) (nDELIVERY_START2 : ¬ wDELIVERY_START = wLAST_TRADING_DAY_LISTED_MONTHS_EARLIER) (nDELIVERY_END1 : ¬ wDELIVERY_END = wLAST_TRADING_DAY) (nDELIVERY_END2 : ¬ wDELIVERY_END = wLAST_TRADING_DAY_LISTED_MONTHS_EARLIER) :
    MetFree l x (head1 (Jvm.Cond.code x code maxLocals ret :: ws) room_1) (fun a U => a = #[(.int p1)] ∧ Z.Warmed39 U.vm ∧ U.heap = h0) (fun _ _ _ _ _ => True) (fun _ U o U' => OwnEnd U (fun v h L => v = some (.int 1) ∧ Fr n0 L) room_1.cells room_1.slots o U') := by
  refine MetFree.of_bodySF (plainFor_of_name lw_pn) hisR ?_
  intro p e s m args below meth c s₁ Bd hml0 hP hK
  obtain ⟨rfl, hZ, hh⟩ := hP
  have hx := Bd.exec
  have hby := Bd.bytes
  have hml : c.maxLocals = 4 := hml0
  have hown : s.vm.findClass "com/example/hour_ending/hourending/calendar/AnchorIsLastTradingDayPinLaw" = some m.cls := findClass_of_methodNamed Bd.named
  have hnm := (name_of_methodNamed Bd.named Bd.method).1
  have X0 : Stand p l e room_1 s m #[(.int p1)] below meth c s₁ [] 0 0 := Stand.of_body Bd
  have e0 : s₁.heap = h0 := by rw [← hh, Bd.state]; rfl
  have N0 := Fr.nil n0
  have KP0 := Keep.refl h0 []
  refine own_go (Q := (OwnEnd s (fun v h L => v = some (.int 1) ∧ Fr n0 L) room_1.cells room_1.slots)) ?_
  refine own_back (fun t k => castTop (lw_ef m p1) k) ?_
  show OwnGo p e below (s₁.setTop (mkF m 0 #[.val (.int p1), .unset, .unset, .unset] [])) _
  refine own_back (fun t k => XS.iloadN X0.here hx rfl (hb hby at_0) rfl k) ?_
  show OwnGo p e below (s₁.setTop (mkF m 1 #[.val (.int p1), .unset, .unset, .unset] [(.int p1)])) _
  refine own_back (fun t k => XS.iconst X0.here hx rfl (hb hby at_1) k) ?_
  show OwnGo p e below (s₁.setTop (mkF m 2 #[.val (.int p1), .unset, .unset, .unset] [(.int (3 : Int32)), (.int p1)])) _
  refine own_back (fun t k => XS.iand X0.here hx rfl (hb hby at_2) rfl k) ?_
  show OwnGo p e below (s₁.setTop (mkF m 3 #[.val (.int p1), .unset, .unset, .unset] [(.int (p1 &&& (3 : Int32)))])) _
  refine own_back (fun t k => XS.istoreN X0.here hx rfl (hb hby at_3) rfl (l' := #[.val (.int p1), .val (.int (p1 &&& (3 : Int32))), .unset, .unset]) rfl k) ?_
  show OwnGo p e below (s₁.setTop (mkF m 4 #[.val (.int p1), .val (.int (p1 &&& (3 : Int32))), .unset, .unset] [])) _
  refine own_back (fun t k => XS.iloadN X0.here hx rfl (hb hby at_4) rfl k) ?_
  show OwnGo p e below (s₁.setTop (mkF m 5 #[.val (.int p1), .val (.int (p1 &&& (3 : Int32))), .unset, .unset] [(.int (p1 &&& (3 : Int32)))])) _
  by_cases hc5_105 : (p1 &&& (3 : Int32)) = (0 : Int32)
  · refine own_back (fun t k => XS.ifNo X0.here hx rfl (hb hby at_5) rfl (Jvm.Free.XT.i0_ne_f hc5_105) k) ?_
    show OwnGo p e below (s₁.setTop (mkF m 8 #[.val (.int p1), .val (.int (p1 &&& (3 : Int32))), .unset, .unset] [])) _
    obtain ⟨T106, X106, e106, st106⟩ := getS2 X0 hx hZ hown (host := "") (Or.inl (hw _ (List.mem_of_getElem? (i := 0) rfl))) Via.refl e0 SDELIVERY_START (g := (mkF m 8 #[.val (.int p1), .val (.int (p1 &&& (3 : Int32))), .unset, .unset] [])) rfl (hb hby at_8)
    refine own_back st106 ?_
    show OwnGo p e below (T106.setTop (mkF m 11 #[.val (.int p1), .val (.int (p1 &&& (3 : Int32))), .unset, .unset] [(.ref wDELIVERY_START)])) _
    refine own_back (fun t k => XS.astoreN X106.here hx rfl (hb hby at_11) rfl rfl (l' := #[.val (.int p1), .val (.int (p1 &&& (3 : Int32))), .val (.ref wDELIVERY_START), .unset]) rfl k) ?_
    show OwnGo p e below (T106.setTop (mkF m 12 #[.val (.int p1), .val (.int (p1 &&& (3 : Int32))), .val (.ref wDELIVERY_START), .unset] [])) _
    refine own_back (fun t k => XS.iconst X106.here hx rfl (hb hby at_12) k) ?_
    show OwnGo p e below (T106.setTop (mkF m 13 #[.val (.int p1), .val (.int (p1 &&& (3 : Int32))), .val (.ref wDELIVERY_START), .unset] [(.int (0 : Int32))])) _
    refine own_back (fun t k => XS.istoreN X106.here hx rfl (hb hby at_13) rfl (l' := #[.val (.int p1), .val (.int (p1 &&& (3 : Int32))), .val (.ref wDELIVERY_START), .val (.int (0 : Int32))]) rfl k) ?_
    show OwnGo p e below (T106.setTop (mkF m 14 #[.val (.int p1), .val (.int (p1 &&& (3 : Int32))), .val (.ref wDELIVERY_START), .val (.int (0 : Int32))] [])) _
    refine own_back (fun t k => XS.goto X106.here hx rfl (pc0 := 14) (pc' := 51) rfl (hb hby at_14) (by decide) (by decide) k) ?_
    show OwnGo p e below (T106.setTop (mkF m 51 #[.val (.int p1), .val (.int (p1 &&& (3 : Int32))), .val (.ref wDELIVERY_START), .val (.int (0 : Int32))] [])) _
    refine own_back (fun t k => XS.aloadN X106.here hx rfl (hb hby at_51) rfl rfl k) ?_
    show OwnGo p e below (T106.setTop (mkF m 52 #[.val (.int p1), .val (.int (p1 &&& (3 : Int32))), .val (.ref wDELIVERY_START), .val (.int (0 : Int32))] [(.ref wDELIVERY_START)])) _
    obtain ⟨cq107, kq107, q107a, q107b, q107c⟩ := isOf hZ e106 EDELIVERY_START
    obtain ⟨_, _, ⟨T107, L107, k107, n107⟩, -, X107, ⟨Lc107, hQ107, l107, y107, z107⟩, st107⟩ := X106.virtualBack hx (y := (⟨"com/example/hour_ending/hourending/calendar/Anchor", "isLastTradingDay", "()Z"⟩ : MethodName)) (z := (⟨"com/example/hour_ending/hourending/calendar/Anchor", "isLastTradingDay", "()Z"⟩ : MethodName)) hown (mvT hZ (hw _ (List.mem_of_getElem? (i := 3) rfl))) (mvT hZ (hw _ (List.mem_of_getElem? (i := 4) rfl))) (notFace_of_selects (args := #[]) (mvT hZ (hw _ (List.mem_of_getElem? (i := 6) rfl)))) (mvT hZ (hw _ (List.mem_of_getElem? (i := 6) rfl))) (mvT hZ (hw _ (List.mem_of_getElem? (i := 5) rfl))) (by decide) (own_backN (W := 0) (rm_is l Z a0 hw [] wDELIVERY_START wLAST_TRADING_DAY wLAST_TRADING_DAY_LISTED_MONTHS_EARLIER h0 n0 Z0 SLAST_TRADING_DAY SLAST_TRADING_DAY_LISTED_MONTHS_EARLIER) hZ (hw _ (List.mem_of_getElem? (i := 7) rfl)) (hw _ (List.mem_of_getElem? (i := 1) rfl)) (by decide) (by decide)) q107a q107c (g := (mkF m 52 #[.val (.int p1), .val (.int (p1 &&& (3 : Int32))), .val (.ref wDELIVERY_START), .val (.int (0 : Int32))] [(.ref wDELIVERY_START)])) rfl (by rw [hml]; rfl) (Steps.refl _) (argsL := []) (rest := []) (lenOf lw_pd0 rfl) rfl (by show 2 * 0 + _ ≤ _; exact Nat.le_of_eq rfl) (hb hby at_52) (fun _ _ => ⟨rfl, e106, Nat.le_of_ble_eq_true rfl, Nat.le_of_ble_eq_true rfl⟩)
    dsimp only [Pt.U, Pt.locs, Pt.cells, Pt.slots] at X107 l107 y107 z107 st107 hQ107
    subst l107 y107 z107
    rw [if_neg (fun q => q.elim nDELIVERY_START1 nDELIVERY_START2)] at hQ107
    obtain ⟨rfl, N107q, hh107⟩ := hQ107
    refine own_seq st107 ?_
    have N107 := Fr.app N0 N107q
    show OwnGo p e below (T107.setTop (mkF m 55 #[.val (.int p1), .val (.int (p1 &&& (3 : Int32))), .val (.ref wDELIVERY_START), .val (.int (0 : Int32))] [(.int (0 : Int32))])) _
    refine own_back (fun t k => XS.iloadN X107.here hx rfl (hb hby at_55) rfl k) ?_
    show OwnGo p e below (T107.setTop (mkF m 56 #[.val (.int p1), .val (.int (p1 &&& (3 : Int32))), .val (.ref wDELIVERY_START), .val (.int (0 : Int32))] [(.int (0 : Int32)), (.int (0 : Int32))])) _
    refine own_back (fun t k => XS.icmpNo X107.here hx rfl (hb hby at_56) rfl (Jvm.Free.XT.ii_ne_f (by decide)) k) ?_
    show OwnGo p e below (T107.setTop (mkF m 59 #[.val (.int p1), .val (.int (p1 &&& (3 : Int32))), .val (.ref wDELIVERY_START), .val (.int (0 : Int32))] [])) _
    refine own_back (fun t k => XS.iconst X107.here hx rfl (hb hby at_59) k) ?_
    show OwnGo p e below (T107.setTop (mkF m 60 #[.val (.int p1), .val (.int (p1 &&& (3 : Int32))), .val (.ref wDELIVERY_START), .val (.int (0 : Int32))] [(.int (1 : Int32))])) _
    refine own_back (fun t k => XS.goto X107.here hx rfl (pc0 := 60) (pc' := 64) rfl (hb hby at_60) (by decide) (by decide) k) ?_
    show OwnGo p e below (T107.setTop (mkF m 64 #[.val (.int p1), .val (.int (p1 &&& (3 : Int32))), .val (.ref wDELIVERY_START), .val (.int (0 : Int32))] [(.int (1 : Int32))])) _
    refine own_retN X107 hx Bd.notSynchronized (t := .boolean) (z := (1 : Int32)) Bd.returns (by simp) rfl (hb hby at_64) hh107 (Nat.le_of_ble_eq_true rfl) (Nat.le_of_ble_eq_true rfl) ?_
    exact ⟨rfl, N107⟩
  · refine own_back (fun t k => XS.ifYes X0.here hx rfl (pc0 := 5) (pc' := 17) rfl (hb hby at_5) rfl (Jvm.Free.XT.i0_ne_t hc5_105) (by decide) (by decide) k) ?_
    show OwnGo p e below (s₁.setTop (mkF m 17 #[.val (.int p1), .val (.int (p1 &&& (3 : Int32))), .unset, .unset] [])) _
    refine own_back (fun t k => XS.iloadN X0.here hx rfl (hb hby at_17) rfl k) ?_
    show OwnGo p e below (s₁.setTop (mkF m 18 #[.val (.int p1), .val (.int (p1 &&& (3 : Int32))), .unset, .unset] [(.int (p1 &&& (3 : Int32)))])) _
    refine own_back (fun t k => XS.iconst X0.here hx rfl (hb hby at_18) k) ?_
    show OwnGo p e below (s₁.setTop (mkF m 19 #[.val (.int p1), .val (.int (p1 &&& (3 : Int32))), .unset, .unset] [(.int (1 : Int32)), (.int (p1 &&& (3 : Int32)))])) _
    by_cases hc19_108 : (p1 &&& (3 : Int32)) = (1 : Int32)
    · refine own_back (fun t k => XS.icmpNo X0.here hx rfl (hb hby at_19) rfl (Jvm.Free.XT.ii_ne_f hc19_108) k) ?_
      show OwnGo p e below (s₁.setTop (mkF m 22 #[.val (.int p1), .val (.int (p1 &&& (3 : Int32))), .unset, .unset] [])) _
      obtain ⟨T109, X109, e109, st109⟩ := getS2 X0 hx hZ hown (host := "") (Or.inl (hw _ (List.mem_of_getElem? (i := 14) rfl))) Via.refl e0 SDELIVERY_END (g := (mkF m 22 #[.val (.int p1), .val (.int (p1 &&& (3 : Int32))), .unset, .unset] [])) rfl (hb hby at_22)
      refine own_back st109 ?_
      show OwnGo p e below (T109.setTop (mkF m 25 #[.val (.int p1), .val (.int (p1 &&& (3 : Int32))), .unset, .unset] [(.ref wDELIVERY_END)])) _
      refine own_back (fun t k => XS.astoreN X109.here hx rfl (hb hby at_25) rfl rfl (l' := #[.val (.int p1), .val (.int (p1 &&& (3 : Int32))), .val (.ref wDELIVERY_END), .unset]) rfl k) ?_
      show OwnGo p e below (T109.setTop (mkF m 26 #[.val (.int p1), .val (.int (p1 &&& (3 : Int32))), .val (.ref wDELIVERY_END), .unset] [])) _
      refine own_back (fun t k => XS.iconst X109.here hx rfl (hb hby at_26) k) ?_
      show OwnGo p e below (T109.setTop (mkF m 27 #[.val (.int p1), .val (.int (p1 &&& (3 : Int32))), .val (.ref wDELIVERY_END), .unset] [(.int (0 : Int32))])) _
      refine own_back (fun t k => XS.istoreN X109.here hx rfl (hb hby at_27) rfl (l' := #[.val (.int p1), .val (.int (p1 &&& (3 : Int32))), .val (.ref wDELIVERY_END), .val (.int (0 : Int32))]) rfl k) ?_
      show OwnGo p e below (T109.setTop (mkF m 28 #[.val (.int p1), .val (.int (p1 &&& (3 : Int32))), .val (.ref wDELIVERY_END), .val (.int (0 : Int32))] [])) _
      refine own_back (fun t k => XS.goto X109.here hx rfl (pc0 := 28) (pc' := 51) rfl (hb hby at_28) (by decide) (by decide) k) ?_
      show OwnGo p e below (T109.setTop (mkF m 51 #[.val (.int p1), .val (.int (p1 &&& (3 : Int32))), .val (.ref wDELIVERY_END), .val (.int (0 : Int32))] [])) _
      refine own_back (fun t k => XS.aloadN X109.here hx rfl (hb hby at_51) rfl rfl k) ?_
      show OwnGo p e below (T109.setTop (mkF m 52 #[.val (.int p1), .val (.int (p1 &&& (3 : Int32))), .val (.ref wDELIVERY_END), .val (.int (0 : Int32))] [(.ref wDELIVERY_END)])) _
      obtain ⟨cq110, kq110, q110a, q110b, q110c⟩ := isOf hZ e109 EDELIVERY_END
      obtain ⟨_, _, ⟨T110, L110, k110, n110⟩, -, X110, ⟨Lc110, hQ110, l110, y110, z110⟩, st110⟩ := X109.virtualBack hx (y := (⟨"com/example/hour_ending/hourending/calendar/Anchor", "isLastTradingDay", "()Z"⟩ : MethodName)) (z := (⟨"com/example/hour_ending/hourending/calendar/Anchor", "isLastTradingDay", "()Z"⟩ : MethodName)) hown (mvT hZ (hw _ (List.mem_of_getElem? (i := 3) rfl))) (mvT hZ (hw _ (List.mem_of_getElem? (i := 4) rfl))) (notFace_of_selects (args := #[]) (mvT hZ (hw _ (List.mem_of_getElem? (i := 6) rfl)))) (mvT hZ (hw _ (List.mem_of_getElem? (i := 6) rfl))) (mvT hZ (hw _ (List.mem_of_getElem? (i := 5) rfl))) (by decide) (own_backN (W := 0) (rm_is l Z a0 hw [] wDELIVERY_END wLAST_TRADING_DAY wLAST_TRADING_DAY_LISTED_MONTHS_EARLIER h0 n0 Z0 SLAST_TRADING_DAY SLAST_TRADING_DAY_LISTED_MONTHS_EARLIER) hZ (hw _ (List.mem_of_getElem? (i := 7) rfl)) (hw _ (List.mem_of_getElem? (i := 1) rfl)) (by decide) (by decide)) q110a q110c (g := (mkF m 52 #[.val (.int p1), .val (.int (p1 &&& (3 : Int32))), .val (.ref wDELIVERY_END), .val (.int (0 : Int32))] [(.ref wDELIVERY_END)])) rfl (by rw [hml]; rfl) (Steps.refl _) (argsL := []) (rest := []) (lenOf lw_pd0 rfl) rfl (by show 2 * 0 + _ ≤ _; exact Nat.le_of_eq rfl) (hb hby at_52) (fun _ _ => ⟨rfl, e109, Nat.le_of_ble_eq_true rfl, Nat.le_of_ble_eq_true rfl⟩)
      dsimp only [Pt.U, Pt.locs, Pt.cells, Pt.slots] at X110 l110 y110 z110 st110 hQ110
      subst l110 y110 z110
      rw [if_neg (fun q => q.elim nDELIVERY_END1 nDELIVERY_END2)] at hQ110
      obtain ⟨rfl, N110q, hh110⟩ := hQ110
      refine own_seq st110 ?_
      have N110 := Fr.app N0 N110q
      show OwnGo p e below (T110.setTop (mkF m 55 #[.val (.int p1), .val (.int (p1 &&& (3 : Int32))), .val (.ref wDELIVERY_END), .val (.int (0 : Int32))] [(.int (0 : Int32))])) _
      refine own_back (fun t k => XS.iloadN X110.here hx rfl (hb hby at_55) rfl k) ?_
      show OwnGo p e below (T110.setTop (mkF m 56 #[.val (.int p1), .val (.int (p1 &&& (3 : Int32))), .val (.ref wDELIVERY_END), .val (.int (0 : Int32))] [(.int (0 : Int32)), (.int (0 : Int32))])) _
      refine own_back (fun t k => XS.icmpNo X110.here hx rfl (hb hby at_56) rfl (Jvm.Free.XT.ii_ne_f (by decide)) k) ?_
      show OwnGo p e below (T110.setTop (mkF m 59 #[.val (.int p1), .val (.int (p1 &&& (3 : Int32))), .val (.ref wDELIVERY_END), .val (.int (0 : Int32))] [])) _
      refine own_back (fun t k => XS.iconst X110.here hx rfl (hb hby at_59) k) ?_
      show OwnGo p e below (T110.setTop (mkF m 60 #[.val (.int p1), .val (.int (p1 &&& (3 : Int32))), .val (.ref wDELIVERY_END), .val (.int (0 : Int32))] [(.int (1 : Int32))])) _
      refine own_back (fun t k => XS.goto X110.here hx rfl (pc0 := 60) (pc' := 64) rfl (hb hby at_60) (by decide) (by decide) k) ?_
      show OwnGo p e below (T110.setTop (mkF m 64 #[.val (.int p1), .val (.int (p1 &&& (3 : Int32))), .val (.ref wDELIVERY_END), .val (.int (0 : Int32))] [(.int (1 : Int32))])) _
      refine own_retN X110 hx Bd.notSynchronized (t := .boolean) (z := (1 : Int32)) Bd.returns (by simp) rfl (hb hby at_64) hh110 (Nat.le_of_ble_eq_true rfl) (Nat.le_of_ble_eq_true rfl) ?_
      exact ⟨rfl, N110⟩
    · refine own_back (fun t k => XS.icmpYes X0.here hx rfl (pc0 := 19) (pc' := 31) rfl (hb hby at_19) rfl (Jvm.Free.XT.ii_ne_t hc19_108) (by decide) (by decide) k) ?_
      show OwnGo p e below (s₁.setTop (mkF m 31 #[.val (.int p1), .val (.int (p1 &&& (3 : Int32))), .unset, .unset] [])) _
      refine own_back (fun t k => XS.iloadN X0.here hx rfl (hb hby at_31) rfl k) ?_
      show OwnGo p e below (s₁.setTop (mkF m 32 #[.val (.int p1), .val (.int (p1 &&& (3 : Int32))), .unset, .unset] [(.int (p1 &&& (3 : Int32)))])) _
      refine own_back (fun t k => XS.iconst X0.here hx rfl (hb hby at_32) k) ?_
      show OwnGo p e below (s₁.setTop (mkF m 33 #[.val (.int p1), .val (.int (p1 &&& (3 : Int32))), .unset, .unset] [(.int (2 : Int32)), (.int (p1 &&& (3 : Int32)))])) _
      by_cases hc33_111 : (p1 &&& (3 : Int32)) = (2 : Int32)
      · refine own_back (fun t k => XS.icmpNo X0.here hx rfl (hb hby at_33) rfl (Jvm.Free.XT.ii_ne_f hc33_111) k) ?_
        show OwnGo p e below (s₁.setTop (mkF m 36 #[.val (.int p1), .val (.int (p1 &&& (3 : Int32))), .unset, .unset] [])) _
        obtain ⟨T112, X112, e112, st112⟩ := getS2 X0 hx hZ hown (host := "") (Or.inl (hw _ (List.mem_of_getElem? (i := 13) rfl))) Via.refl e0 SLAST_TRADING_DAY (g := (mkF m 36 #[.val (.int p1), .val (.int (p1 &&& (3 : Int32))), .unset, .unset] [])) rfl (hb hby at_36)
        refine own_back st112 ?_
        show OwnGo p e below (T112.setTop (mkF m 39 #[.val (.int p1), .val (.int (p1 &&& (3 : Int32))), .unset, .unset] [(.ref wLAST_TRADING_DAY)])) _
        refine own_back (fun t k => XS.astoreN X112.here hx rfl (hb hby at_39) rfl rfl (l' := #[.val (.int p1), .val (.int (p1 &&& (3 : Int32))), .val (.ref wLAST_TRADING_DAY), .unset]) rfl k) ?_
        show OwnGo p e below (T112.setTop (mkF m 40 #[.val (.int p1), .val (.int (p1 &&& (3 : Int32))), .val (.ref wLAST_TRADING_DAY), .unset] [])) _
        refine own_back (fun t k => XS.iconst X112.here hx rfl (hb hby at_40) k) ?_
        show OwnGo p e below (T112.setTop (mkF m 41 #[.val (.int p1), .val (.int (p1 &&& (3 : Int32))), .val (.ref wLAST_TRADING_DAY), .unset] [(.int (1 : Int32))])) _
        refine own_back (fun t k => XS.istoreN X112.here hx rfl (hb hby at_41) rfl (l' := #[.val (.int p1), .val (.int (p1 &&& (3 : Int32))), .val (.ref wLAST_TRADING_DAY), .val (.int (1 : Int32))]) rfl k) ?_
        show OwnGo p e below (T112.setTop (mkF m 42 #[.val (.int p1), .val (.int (p1 &&& (3 : Int32))), .val (.ref wLAST_TRADING_DAY), .val (.int (1 : Int32))] [])) _
        refine own_back (fun t k => XS.goto X112.here hx rfl (pc0 := 42) (pc' := 51) rfl (hb hby at_42) (by decide) (by decide) k) ?_
        show OwnGo p e below (T112.setTop (mkF m 51 #[.val (.int p1), .val (.int (p1 &&& (3 : Int32))), .val (.ref wLAST_TRADING_DAY), .val (.int (1 : Int32))] [])) _
        refine own_back (fun t k => XS.aloadN X112.here hx rfl (hb hby at_51) rfl rfl k) ?_
        show OwnGo p e below (T112.setTop (mkF m 52 #[.val (.int p1), .val (.int (p1 &&& (3 : Int32))), .val (.ref wLAST_TRADING_DAY), .val (.int (1 : Int32))] [(.ref wLAST_TRADING_DAY)])) _
        obtain ⟨cq113, kq113, q113a, q113b, q113c⟩ := isOf hZ e112 ELAST_TRADING_DAY
        obtain ⟨_, _, ⟨T113, L113, k113, n113⟩, -, X113, ⟨Lc113, hQ113, l113, y113, z113⟩, st113⟩ := X112.virtualBack hx (y := (⟨"com/example/hour_ending/hourending/calendar/Anchor", "isLastTradingDay", "()Z"⟩ : MethodName)) (z := (⟨"com/example/hour_ending/hourending/calendar/Anchor", "isLastTradingDay", "()Z"⟩ : MethodName)) hown (mvT hZ (hw _ (List.mem_of_getElem? (i := 3) rfl))) (mvT hZ (hw _ (List.mem_of_getElem? (i := 4) rfl))) (notFace_of_selects (args := #[]) (mvT hZ (hw _ (List.mem_of_getElem? (i := 6) rfl)))) (mvT hZ (hw _ (List.mem_of_getElem? (i := 6) rfl))) (mvT hZ (hw _ (List.mem_of_getElem? (i := 5) rfl))) (by decide) (own_backN (W := 0) (rm_is l Z a0 hw [] wLAST_TRADING_DAY wLAST_TRADING_DAY wLAST_TRADING_DAY_LISTED_MONTHS_EARLIER h0 n0 Z0 SLAST_TRADING_DAY SLAST_TRADING_DAY_LISTED_MONTHS_EARLIER) hZ (hw _ (List.mem_of_getElem? (i := 7) rfl)) (hw _ (List.mem_of_getElem? (i := 1) rfl)) (by decide) (by decide)) q113a q113c (g := (mkF m 52 #[.val (.int p1), .val (.int (p1 &&& (3 : Int32))), .val (.ref wLAST_TRADING_DAY), .val (.int (1 : Int32))] [(.ref wLAST_TRADING_DAY)])) rfl (by rw [hml]; rfl) (Steps.refl _) (argsL := []) (rest := []) (lenOf lw_pd0 rfl) rfl (by show 2 * 0 + _ ≤ _; exact Nat.le_of_eq rfl) (hb hby at_52) (fun _ _ => ⟨rfl, e112, Nat.le_of_ble_eq_true rfl, Nat.le_of_ble_eq_true rfl⟩)
        dsimp only [Pt.U, Pt.locs, Pt.cells, Pt.slots] at X113 l113 y113 z113 st113 hQ113
        subst l113 y113 z113
        rw [if_pos (Or.inl rfl)] at hQ113
        obtain ⟨rfl, N113q, hh113⟩ := hQ113
        refine own_seq st113 ?_
        have N113 := Fr.app N0 N113q
        show OwnGo p e below (T113.setTop (mkF m 55 #[.val (.int p1), .val (.int (p1 &&& (3 : Int32))), .val (.ref wLAST_TRADING_DAY), .val (.int (1 : Int32))] [(.int (1 : Int32))])) _
        refine own_back (fun t k => XS.iloadN X113.here hx rfl (hb hby at_55) rfl k) ?_
        show OwnGo p e below (T113.setTop (mkF m 56 #[.val (.int p1), .val (.int (p1 &&& (3 : Int32))), .val (.ref wLAST_TRADING_DAY), .val (.int (1 : Int32))] [(.int (1 : Int32)), (.int (1 : Int32))])) _
        refine own_back (fun t k => XS.icmpNo X113.here hx rfl (hb hby at_56) rfl (Jvm.Free.XT.ii_ne_f (by decide)) k) ?_
        show OwnGo p e below (T113.setTop (mkF m 59 #[.val (.int p1), .val (.int (p1 &&& (3 : Int32))), .val (.ref wLAST_TRADING_DAY), .val (.int (1 : Int32))] [])) _
        refine own_back (fun t k => XS.iconst X113.here hx rfl (hb hby at_59) k) ?_
        show OwnGo p e below (T113.setTop (mkF m 60 #[.val (.int p1), .val (.int (p1 &&& (3 : Int32))), .val (.ref wLAST_TRADING_DAY), .val (.int (1 : Int32))] [(.int (1 : Int32))])) _
        refine own_back (fun t k => XS.goto X113.here hx rfl (pc0 := 60) (pc' := 64) rfl (hb hby at_60) (by decide) (by decide) k) ?_
        show OwnGo p e below (T113.setTop (mkF m 64 #[.val (.int p1), .val (.int (p1 &&& (3 : Int32))), .val (.ref wLAST_TRADING_DAY), .val (.int (1 : Int32))] [(.int (1 : Int32))])) _
        refine own_retN X113 hx Bd.notSynchronized (t := .boolean) (z := (1 : Int32)) Bd.returns (by simp) rfl (hb hby at_64) hh113 (Nat.le_of_ble_eq_true rfl) (Nat.le_of_ble_eq_true rfl) ?_
        exact ⟨rfl, N113⟩
      · refine own_back (fun t k => XS.icmpYes X0.here hx rfl (pc0 := 33) (pc' := 45) rfl (hb hby at_33) rfl (Jvm.Free.XT.ii_ne_t hc33_111) (by decide) (by decide) k) ?_
        show OwnGo p e below (s₁.setTop (mkF m 45 #[.val (.int p1), .val (.int (p1 &&& (3 : Int32))), .unset, .unset] [])) _
        obtain ⟨T114, X114, e114, st114⟩ := getS2 X0 hx hZ hown (host := "") (Or.inl (hw _ (List.mem_of_getElem? (i := 12) rfl))) Via.refl e0 SLAST_TRADING_DAY_LISTED_MONTHS_EARLIER (g := (mkF m 45 #[.val (.int p1), .val (.int (p1 &&& (3 : Int32))), .unset, .unset] [])) rfl (hb hby at_45)
        refine own_back st114 ?_
        show OwnGo p e below (T114.setTop (mkF m 48 #[.val (.int p1), .val (.int (p1 &&& (3 : Int32))), .unset, .unset] [(.ref wLAST_TRADING_DAY_LISTED_MONTHS_EARLIER)])) _
        refine own_back (fun t k => XS.astoreN X114.here hx rfl (hb hby at_48) rfl rfl (l' := #[.val (.int p1), .val (.int (p1 &&& (3 : Int32))), .val (.ref wLAST_TRADING_DAY_LISTED_MONTHS_EARLIER), .unset]) rfl k) ?_
        show OwnGo p e below (T114.setTop (mkF m 49 #[.val (.int p1), .val (.int (p1 &&& (3 : Int32))), .val (.ref wLAST_TRADING_DAY_LISTED_MONTHS_EARLIER), .unset] [])) _
        refine own_back (fun t k => XS.iconst X114.here hx rfl (hb hby at_49) k) ?_
        show OwnGo p e below (T114.setTop (mkF m 50 #[.val (.int p1), .val (.int (p1 &&& (3 : Int32))), .val (.ref wLAST_TRADING_DAY_LISTED_MONTHS_EARLIER), .unset] [(.int (1 : Int32))])) _
        refine own_back (fun t k => XS.istoreN X114.here hx rfl (hb hby at_50) rfl (l' := #[.val (.int p1), .val (.int (p1 &&& (3 : Int32))), .val (.ref wLAST_TRADING_DAY_LISTED_MONTHS_EARLIER), .val (.int (1 : Int32))]) rfl k) ?_
        show OwnGo p e below (T114.setTop (mkF m 51 #[.val (.int p1), .val (.int (p1 &&& (3 : Int32))), .val (.ref wLAST_TRADING_DAY_LISTED_MONTHS_EARLIER), .val (.int (1 : Int32))] [])) _
        refine own_back (fun t k => XS.aloadN X114.here hx rfl (hb hby at_51) rfl rfl k) ?_
        show OwnGo p e below (T114.setTop (mkF m 52 #[.val (.int p1), .val (.int (p1 &&& (3 : Int32))), .val (.ref wLAST_TRADING_DAY_LISTED_MONTHS_EARLIER), .val (.int (1 : Int32))] [(.ref wLAST_TRADING_DAY_LISTED_MONTHS_EARLIER)])) _
        obtain ⟨cq115, kq115, q115a, q115b, q115c⟩ := isOf hZ e114 ELAST_TRADING_DAY_LISTED_MONTHS_EARLIER
        obtain ⟨_, _, ⟨T115, L115, k115, n115⟩, -, X115, ⟨Lc115, hQ115, l115, y115, z115⟩, st115⟩ := X114.virtualBack hx (y := (⟨"com/example/hour_ending/hourending/calendar/Anchor", "isLastTradingDay", "()Z"⟩ : MethodName)) (z := (⟨"com/example/hour_ending/hourending/calendar/Anchor", "isLastTradingDay", "()Z"⟩ : MethodName)) hown (mvT hZ (hw _ (List.mem_of_getElem? (i := 3) rfl))) (mvT hZ (hw _ (List.mem_of_getElem? (i := 4) rfl))) (notFace_of_selects (args := #[]) (mvT hZ (hw _ (List.mem_of_getElem? (i := 6) rfl)))) (mvT hZ (hw _ (List.mem_of_getElem? (i := 6) rfl))) (mvT hZ (hw _ (List.mem_of_getElem? (i := 5) rfl))) (by decide) (own_backN (W := 0) (rm_is l Z a0 hw [] wLAST_TRADING_DAY_LISTED_MONTHS_EARLIER wLAST_TRADING_DAY wLAST_TRADING_DAY_LISTED_MONTHS_EARLIER h0 n0 Z0 SLAST_TRADING_DAY SLAST_TRADING_DAY_LISTED_MONTHS_EARLIER) hZ (hw _ (List.mem_of_getElem? (i := 7) rfl)) (hw _ (List.mem_of_getElem? (i := 1) rfl)) (by decide) (by decide)) q115a q115c (g := (mkF m 52 #[.val (.int p1), .val (.int (p1 &&& (3 : Int32))), .val (.ref wLAST_TRADING_DAY_LISTED_MONTHS_EARLIER), .val (.int (1 : Int32))] [(.ref wLAST_TRADING_DAY_LISTED_MONTHS_EARLIER)])) rfl (by rw [hml]; rfl) (Steps.refl _) (argsL := []) (rest := []) (lenOf lw_pd0 rfl) rfl (by show 2 * 0 + _ ≤ _; exact Nat.le_of_eq rfl) (hb hby at_52) (fun _ _ => ⟨rfl, e114, Nat.le_of_ble_eq_true rfl, Nat.le_of_ble_eq_true rfl⟩)
        dsimp only [Pt.U, Pt.locs, Pt.cells, Pt.slots] at X115 l115 y115 z115 st115 hQ115
        subst l115 y115 z115
        rw [if_pos (Or.inr rfl)] at hQ115
        obtain ⟨rfl, N115q, hh115⟩ := hQ115
        refine own_seq st115 ?_
        have N115 := Fr.app N0 N115q
        show OwnGo p e below (T115.setTop (mkF m 55 #[.val (.int p1), .val (.int (p1 &&& (3 : Int32))), .val (.ref wLAST_TRADING_DAY_LISTED_MONTHS_EARLIER), .val (.int (1 : Int32))] [(.int (1 : Int32))])) _
        refine own_back (fun t k => XS.iloadN X115.here hx rfl (hb hby at_55) rfl k) ?_
        show OwnGo p e below (T115.setTop (mkF m 56 #[.val (.int p1), .val (.int (p1 &&& (3 : Int32))), .val (.ref wLAST_TRADING_DAY_LISTED_MONTHS_EARLIER), .val (.int (1 : Int32))] [(.int (1 : Int32)), (.int (1 : Int32))])) _
        refine own_back (fun t k => XS.icmpNo X115.here hx rfl (hb hby at_56) rfl (Jvm.Free.XT.ii_ne_f (by decide)) k) ?_
        show OwnGo p e below (T115.setTop (mkF m 59 #[.val (.int p1), .val (.int (p1 &&& (3 : Int32))), .val (.ref wLAST_TRADING_DAY_LISTED_MONTHS_EARLIER), .val (.int (1 : Int32))] [])) _
        refine own_back (fun t k => XS.iconst X115.here hx rfl (hb hby at_59) k) ?_
        show OwnGo p e below (T115.setTop (mkF m 60 #[.val (.int p1), .val (.int (p1 &&& (3 : Int32))), .val (.ref wLAST_TRADING_DAY_LISTED_MONTHS_EARLIER), .val (.int (1 : Int32))] [(.int (1 : Int32))])) _
        refine own_back (fun t k => XS.goto X115.here hx rfl (pc0 := 60) (pc' := 64) rfl (hb hby at_60) (by decide) (by decide) k) ?_
        show OwnGo p e below (T115.setTop (mkF m 64 #[.val (.int p1), .val (.int (p1 &&& (3 : Int32))), .val (.ref wLAST_TRADING_DAY_LISTED_MONTHS_EARLIER), .val (.int (1 : Int32))] [(.int (1 : Int32))])) _
        refine own_retN X115 hx Bd.notSynchronized (t := .boolean) (z := (1 : Int32)) Bd.returns (by simp) rfl (hb hby at_64) hh115 (Nat.le_of_ble_eq_true rfl) (Nat.le_of_ble_eq_true rfl) ?_
        exact ⟨rfl, N115⟩
set_option maxRecDepth 65536 in
set_option maxHeartbeats 40000000 in
theorem comes_1 {Post : Tables → Env → Array Value → State → Outcome → State → Prop} (hpost : ∀ tb e args s v u, (limb_1_1.after args s (.returned v) u = true ∧ limb_1_2.after args s (.returned v) u = true ∧ True) → FrameEnd s (.returned v) u (Jvm.fieldLocs frame_1_writes args s ++ Jvm.arrayLocs frame_1_arrays args s ++ Jvm.staticLocs frame_1_statics s) 0 0 → Post tb e args s (.returned v) u) :
    ArmFor flags0 classFile x code maxLocals ret World_1 tables_1 room_1 Calls_1 rest_1 Pre_1 Post := by
  intro l hfl _ _ p e ha hc hk s m args below hf hA hF happ hP
  obtain ⟨hcalls, hrest, hpre⟩ := hP
  obtain ⟨-, -, -, hnamed, -, -, -, hat⟩ := (Spec.applies_iff hf).mp happ
  obtain ⟨hg, hn⟩ := and_e (Cond.before_iff.mp (show (Jvm.Cond.and given_1 narrow_1).before args s = true from hpre))
  obtain ⟨g1, g2⟩ := and_e hg
  obtain ⟨g3, g4⟩ := and_e hn
  obtain ⟨g5, g6⟩ := and_e g4
  obtain ⟨g7, g8⟩ := and_e g6
  obtain ⟨g9, g10⟩ := and_e g8
  obtain ⟨g11, g12⟩ := and_e g10
  obtain ⟨g13, g14⟩ := and_e g12
  obtain ⟨g15, g16⟩ := and_e g14
  obtain ⟨w0, rfl⟩ : ∃ w0 : Value, args = #[w0] := by
    have hs : args.size = 1 := by simpa [Cond.value, given_1] using g1
    obtain ⟨L⟩ := args
    match L, hs with
    | [w0], _ => exact ⟨w0, rfl⟩
  have hw := fun d (hd : d ∈ tables_1) => atoms_spec (ws := Jvm.Cond.code x code maxLocals ret :: tables_1) hat d (List.mem_cons_of_mem _ hd)
  have hfit : Fit s := fun {y c} hc i hi => by
    obtain ⟨ha, rfl⟩ := Array.getElem?_eq_some_iff.mp hc
    have q := List.all_eq_true.mp ((Array.all_eq_true_iff_forall_mem.mp hF) _ (Array.getElem_mem ha)) i (List.mem_range.mpr hi)
    simpa [Array.getElem?_eq_getElem hi] using q
  obtain ⟨i0, ei0⟩ := is_v g2
  obtain rfl : w0 = (.int i0) := Option.some.inj ei0
  obtain ⟨wDELIVERY_START, vDELIVERY_START⟩ := exa_v g3
  have SDELIVERY_START : Sta s s.heap "com/example/hour_ending/hourending/calendar/Anchor" "DELIVERY_START" "Lcom/example/hour_ending/hourending/calendar/Anchor;" (.ref wDELIVERY_START) := Sta.start vDELIVERY_START (Or.inr ⟨(hw _ (List.mem_of_getElem? (i := 1) rfl)), (hw _ (List.mem_of_getElem? (i := 2) rfl))⟩)
  have EDELIVERY_START : Exa s s.heap wDELIVERY_START "com/example/hour_ending/hourending/calendar/Anchor" := Exa.start vDELIVERY_START g3
  have FDELIVERY_START : Fld s s.heap wDELIVERY_START "java/lang/Enum" "ordinal" "I" (.int 0) := Fld.start ((fld_at vDELIVERY_START).symm.trans (own_eqint g7))
  obtain ⟨wLAST_TRADING_DAY, vLAST_TRADING_DAY⟩ := exa_v g5
  have SLAST_TRADING_DAY : Sta s s.heap "com/example/hour_ending/hourending/calendar/Anchor" "LAST_TRADING_DAY" "Lcom/example/hour_ending/hourending/calendar/Anchor;" (.ref wLAST_TRADING_DAY) := Sta.start vLAST_TRADING_DAY (Or.inr ⟨(hw _ (List.mem_of_getElem? (i := 1) rfl)), (hw _ (List.mem_of_getElem? (i := 9) rfl))⟩)
  have ELAST_TRADING_DAY : Exa s s.heap wLAST_TRADING_DAY "com/example/hour_ending/hourending/calendar/Anchor" := Exa.start vLAST_TRADING_DAY g5
  have FLAST_TRADING_DAY : Fld s s.heap wLAST_TRADING_DAY "java/lang/Enum" "ordinal" "I" (.int 2) := Fld.start ((fld_at vLAST_TRADING_DAY).symm.trans (own_eqint g9))
  obtain ⟨wLAST_TRADING_DAY_LISTED_MONTHS_EARLIER, vLAST_TRADING_DAY_LISTED_MONTHS_EARLIER⟩ := exa_v g11
  have SLAST_TRADING_DAY_LISTED_MONTHS_EARLIER : Sta s s.heap "com/example/hour_ending/hourending/calendar/Anchor" "LAST_TRADING_DAY_LISTED_MONTHS_EARLIER" "Lcom/example/hour_ending/hourending/calendar/Anchor;" (.ref wLAST_TRADING_DAY_LISTED_MONTHS_EARLIER) := Sta.start vLAST_TRADING_DAY_LISTED_MONTHS_EARLIER (Or.inr ⟨(hw _ (List.mem_of_getElem? (i := 1) rfl)), (hw _ (List.mem_of_getElem? (i := 11) rfl))⟩)
  have ELAST_TRADING_DAY_LISTED_MONTHS_EARLIER : Exa s s.heap wLAST_TRADING_DAY_LISTED_MONTHS_EARLIER "com/example/hour_ending/hourending/calendar/Anchor" := Exa.start vLAST_TRADING_DAY_LISTED_MONTHS_EARLIER g11
  have FLAST_TRADING_DAY_LISTED_MONTHS_EARLIER : Fld s s.heap wLAST_TRADING_DAY_LISTED_MONTHS_EARLIER "java/lang/Enum" "ordinal" "I" (.int 3) := Fld.start ((fld_at vLAST_TRADING_DAY_LISTED_MONTHS_EARLIER).symm.trans (own_eqint g13))
  obtain ⟨wDELIVERY_END, vDELIVERY_END⟩ := exa_v g15
  have SDELIVERY_END : Sta s s.heap "com/example/hour_ending/hourending/calendar/Anchor" "DELIVERY_END" "Lcom/example/hour_ending/hourending/calendar/Anchor;" (.ref wDELIVERY_END) := Sta.start vDELIVERY_END (Or.inr ⟨(hw _ (List.mem_of_getElem? (i := 1) rfl)), (hw _ (List.mem_of_getElem? (i := 15) rfl))⟩)
  have EDELIVERY_END : Exa s s.heap wDELIVERY_END "com/example/hour_ending/hourending/calendar/Anchor" := Exa.start vDELIVERY_END g15
  have FDELIVERY_END : Fld s s.heap wDELIVERY_END "java/lang/Enum" "ordinal" "I" (.int 1) := Fld.start ((fld_at vDELIVERY_END).symm.trans (own_eqint g16))
  obtain ⟨n, o, h1, h2, h3, _, L, rfl, ⟨rfl, N⟩, hq⟩ := rm_law l s _ hw tables_1 i0 wDELIVERY_START wLAST_TRADING_DAY wLAST_TRADING_DAY_LISTED_MONTHS_EARLIER wDELIVERY_END s.heap s.heap.size (Nat.le_refl _) SDELIVERY_START SLAST_TRADING_DAY SLAST_TRADING_DAY_LISTED_MONTHS_EARLIER SDELIVERY_END EDELIVERY_START ELAST_TRADING_DAY ELAST_TRADING_DAY_LISTED_MONTHS_EARLIER EDELIVERY_END (Fld.ne FDELIVERY_START FLAST_TRADING_DAY (by decide)) (Fld.ne FDELIVERY_START FLAST_TRADING_DAY_LISTED_MONTHS_EARLIER (by decide)) (Fld.ne FDELIVERY_END FLAST_TRADING_DAY (by decide)) (Fld.ne FDELIVERY_END FLAST_TRADING_DAY_LISTED_MONTHS_EARLIER (by decide)) p e ha hc hk s m _ below hf ((Spec.applies_iff_loose hf).mp happ).1 ⟨rfl, State.Warmed39.refl s, rfl⟩ trivial
  refine ⟨n, _, h1, h2, h3, hpost _ _ _ _ _ _ ⟨Cond.after_iff.mpr rfl, Cond.after_iff.mpr (eq_i res_at (Term.int_eval (1)) rfl), trivial⟩ ⟨hq.1, hq.2.1, (hq.2.2.sift fun y hy => Or.inr (N y hy)).mono (by decide) (by decide)⟩⟩
theorem main_1_1 : Claimed_1_1 := comes_1 fun _ _ _ _ _ _ h hF => ⟨h.1, hF⟩
theorem main_1_2 : Claimed_1_2 := comes_1 fun _ _ _ _ _ _ h hF => ⟨h.2.1, hF⟩
end Jvm.Pilot.@@N@@
namespace Jvm.Pilot.@@N@@
open Jvm Jvm.ClassFile Sem Op Lib Jvm.Free Jvm.Stand Jvm.Pilot.@@N@@.Jvm.D
/-! MADE BY PROGRAM (witnessworld.py) out of the Statement's table words and the real class files: 13 classes; the members and pool entries that the words name. The judged class is class 1, her method 1. -/
namespace start1
open Jvm.ClassFile
def u (s : String) : CpInfo := .utf8 (stringToUtf16 s)
/-- a pool by its gaps: so many unusable entries, then the entry; so many at the end -/
def gap : Nat → List CpInfo → List CpInfo
  | 0, r => r
  | n + 1, r => .unusable :: gap n r
def poolList (es : List (Nat × CpInfo)) (last : Nat) : List CpInfo := es.foldr (fun e r => gap e.1 (e.2 :: r)) (gap last [])
def pool (es : List (Nat × CpInfo)) (last : Nat) : Array CpInfo := ⟨poolList es last⟩
def fileOf (pool : Array CpInfo) (this : Nat) (attrs : Array Attribute := #[]) (ms : Array MethodInfo := #[]) (fl : Nat := 33) (sup : Nat := 0) (ifs : Array Nat := #[]) (fds : Array FieldInfo := #[]) : ClassFile where
  minorVersion := 0
  majorVersion := 65
  constantPool := pool
  accessFlags := fl
  thisClass := this
  superClass := sup
  interfaces := ifs
  fields := fds
  methods := ms
  attributes := attrs
def plain (name : String) (sup : Option ClassId) : Class where
  name := name
  kind := .ordinary
  loader := none
  accessFlags := 33
  super := sup
  interfaces := #[]
  cf := none
  fields := #[]
  methods := #[]
  instanceTypes := #[]
  staticTypes := #[]
  resolved := #[]
  callSites := []
  init := .initialized
  statics := none
  mirror := none

def pool0 : Array CpInfo := pool [(5, u "<init>"), (0, u "()V"), (1, .class_ 10), (1, u "java/lang/Object")] 113

def k0m0 : Method := { name := "<init>", desc := "()V", sig := { parameters := [], returnType := none }, accessFlags := 1, code := none }
/-- java/lang/Object -/
def k0 : Class := { plain "java/lang/Object" none with
  accessFlags := 33
  interfaces := #[]
  cf := some (fileOf pool0 8 #[] #[{ accessFlags := 1, nameIndex := 5, descriptorIndex := 6, attributes := #[] }] 33 0 #[] #[])
  fields := #[]
  methods := #[k0m0]
  instanceTypes := #[]
  staticTypes := #[]
  resolved := Array.replicate 124 none
  statics := none }

def pool1 : Array CpInfo := pool [(2, .class_ 4), (1, u "java/lang/Object"), (0, u "<init>"), (0, u "()V"), (0, .fieldref 8 9), (0, .class_ 10), (0, .nameAndType 11 12), (0, u "com/example/hour_ending/hourending/calendar/Anchor"), (0, u "DELIVERY_START"), (0, u "Lcom/example/hour_ending/hourending/calendar/Anchor;"), (0, .fieldref 8 14), (0, .nameAndType 15 12), (0, u "DELIVERY_END"), (0, .fieldref 8 17), (0, .nameAndType 18 12), (0, u "LAST_TRADING_DAY"), (0, .fieldref 8 20), (0, .nameAndType 21 12), (0, u "LAST_TRADING_DAY_LISTED_MONTHS_EARLIER"), (0, .methodref 8 23), (0, .nameAndType 24 25), (0, u "isLastTradingDay"), (0, u "()Z"), (0, .class_ 27), (0, u "com/example/hour_ending/hourending/calendar/AnchorIsLastTradingDayPinLaw"), (2, u "law"), (0, u "(I)Z")] 3

def k1m0 : Method := { name := "<init>", desc := "()V", sig := { parameters := [], returnType := none }, accessFlags := 2, code := none }
def k1c1 : Code := { maxStack := 2, maxLocals := 4, code := code, exceptionTable := #[], attributes := #[] }
def k1m1 : Method := { name := "law", desc := "(I)Z", sig := { parameters := [.int], returnType := some .boolean }, accessFlags := 9, code := some k1c1 }
/-- com/example/hour_ending/hourending/calendar/AnchorIsLastTradingDayPinLaw -/
def k1 : Class := { plain "com/example/hour_ending/hourending/calendar/AnchorIsLastTradingDayPinLaw" (some 0) with
  accessFlags := 49
  interfaces := #[]
  cf := some (fileOf pool1 26 #[] #[{ accessFlags := 2, nameIndex := 5, descriptorIndex := 6, attributes := #[] }, { accessFlags := 9, nameIndex := 30, descriptorIndex := 31, attributes := #[] }] 49 2 #[] #[])
  fields := #[]
  methods := #[k1m0, k1m1]
  instanceTypes := #[]
  staticTypes := #[]
  resolved := Array.replicate 35 none
  statics := none }

def pool2 : Array CpInfo := pool [(1, .class_ 2), (0, u "java/lang/constant/Constable"), (0, .class_ 4), (0, u "java/lang/Object")] 6

/-- java/lang/constant/Constable -/
def k2 : Class := { plain "java/lang/constant/Constable" (some 0) with
  accessFlags := 1537
  interfaces := #[]
  cf := some (fileOf pool2 1 #[] #[] 1537 3 #[] #[])
  fields := #[]
  methods := #[]
  instanceTypes := #[]
  staticTypes := #[]
  resolved := Array.replicate 11 none
  statics := none }

def pool3 : Array CpInfo := pool [(1, .class_ 2), (0, u "java/lang/Comparable"), (0, .class_ 4), (0, u "java/lang/Object")] 7

/-- java/lang/Comparable -/
def k3 : Class := { plain "java/lang/Comparable" (some 0) with
  accessFlags := 1537
  interfaces := #[]
  cf := some (fileOf pool3 1 #[] #[] 1537 3 #[] #[])
  fields := #[]
  methods := #[]
  instanceTypes := #[]
  staticTypes := #[]
  resolved := Array.replicate 12 none
  statics := none }

def pool4 : Array CpInfo := pool [(1, .class_ 2), (0, u "java/io/Serializable"), (0, .class_ 4), (0, u "java/lang/Object")] 2

/-- java/io/Serializable -/
def k4 : Class := { plain "java/io/Serializable" (some 0) with
  accessFlags := 1537
  interfaces := #[]
  cf := some (fileOf pool4 1 #[] #[] 1537 3 #[] #[])
  fields := #[]
  methods := #[]
  instanceTypes := #[]
  staticTypes := #[]
  resolved := Array.replicate 7 none
  statics := none }

def pool5 : Array CpInfo := pool [(2, .class_ 4), (1, u "java/lang/Enum"), (0, u "name"), (0, u "Ljava/lang/String;"), (2, u "ordinal"), (0, u "I"), (1, .class_ 14), (1, u "java/lang/Object"), (4, u "hash"), (86, .class_ 108), (1, u "java/lang/Enum$EnumDesc"), (2, .class_ 112), (0, u "java/lang/constant/Constable"), (0, .class_ 114), (0, u "java/lang/Comparable"), (0, .class_ 116), (0, u "java/io/Serializable")] 87

/-- java/lang/Enum -/
def k5 : Class := { plain "java/lang/Enum" (some 0) with
  accessFlags := 1057
  interfaces := #[2, 3, 4]
  cf := some (fileOf pool5 2 #[.nestMembers #[106]] #[] 1057 12 #[111, 113, 115] #[{ accessFlags := 18, nameIndex := 5, descriptorIndex := 6, attributes := #[] }, { accessFlags := 18, nameIndex := 9, descriptorIndex := 10, attributes := #[] }, { accessFlags := 2, nameIndex := 19, descriptorIndex := 10, attributes := #[] }])
  fields := #[{ name := "name", type := (.object "java/lang/String"), accessFlags := 18, slot := 0, constantValue := 0 }, { name := "ordinal", type := .int, accessFlags := 18, slot := 1, constantValue := 0 }, { name := "hash", type := .int, accessFlags := 2, slot := 2, constantValue := 0 }]
  methods := #[]
  instanceTypes := #[(.object "java/lang/String"), .int, .int]
  staticTypes := #[]
  resolved := Array.replicate 204 none
  statics := none }

def pool6 : Array CpInfo := pool [(2, .class_ 4), (1, u "com/example/hour_ending/hourending/calendar/Labelled"), (18, .class_ 24), (0, u "java/lang/Object")] 11

/-- com/example/hour_ending/hourending/calendar/Labelled -/
def k6 : Class := { plain "com/example/hour_ending/hourending/calendar/Labelled" (some 0) with
  accessFlags := 1537
  interfaces := #[]
  cf := some (fileOf pool6 2 #[] #[] 1537 23 #[] #[])
  fields := #[]
  methods := #[]
  instanceTypes := #[]
  staticTypes := #[]
  resolved := Array.replicate 36 none
  statics := none }

def pool7 : Array CpInfo := pool [(1, .class_ 2), (0, u "com/example/hour_ending/hourending/calendar/Anchor"), (2, u "DELIVERY_START"), (0, u "Lcom/example/hour_ending/hourending/calendar/Anchor;"), (2, u "DELIVERY_END"), (0, .fieldref 1 11), (0, .nameAndType 12 6), (0, u "LAST_TRADING_DAY"), (0, .fieldref 1 14), (0, .nameAndType 15 6), (0, u "LAST_TRADING_DAY_LISTED_MONTHS_EARLIER"), (2, u "$VALUES"), (0, u "[Lcom/example/hour_ending/hourending/calendar/Anchor;"), (6, .class_ 28), (1, u "java/lang/Enum"), (8, u "label"), (0, u "Ljava/lang/String;"), (27, .class_ 67), (0, u "com/example/hour_ending/hourending/calendar/Labelled"), (7, u "isLastTradingDay"), (0, u "()Z")] 21

def k7c0 : Code := { maxStack := 2, maxLocals := 1, code := prog_1_method_5_code, exceptionTable := #[], attributes := #[] }
def k7m0 : Method := { name := "isLastTradingDay", desc := "()Z", sig := { parameters := [], returnType := some .boolean }, accessFlags := 0, code := some k7c0 }
/-- com/example/hour_ending/hourending/calendar/Anchor -/
def k7 : Class := { plain "com/example/hour_ending/hourending/calendar/Anchor" (some 5) with
  accessFlags := 16433
  interfaces := #[6]
  cf := some (fileOf pool7 1 #[] #[{ accessFlags := 0, nameIndex := 75, descriptorIndex := 76, attributes := #[] }] 16433 26 #[66] #[{ accessFlags := 16409, nameIndex := 5, descriptorIndex := 6, attributes := #[] }, { accessFlags := 16409, nameIndex := 9, descriptorIndex := 6, attributes := #[] }, { accessFlags := 16409, nameIndex := 12, descriptorIndex := 6, attributes := #[] }, { accessFlags := 16409, nameIndex := 15, descriptorIndex := 6, attributes := #[] }, { accessFlags := 18, nameIndex := 37, descriptorIndex := 38, attributes := #[] }, { accessFlags := 4122, nameIndex := 18, descriptorIndex := 19, attributes := #[] }])
  fields := #[{ name := "DELIVERY_START", type := (.object "com/example/hour_ending/hourending/calendar/Anchor"), accessFlags := 16409, slot := 0, constantValue := 0 }, { name := "DELIVERY_END", type := (.object "com/example/hour_ending/hourending/calendar/Anchor"), accessFlags := 16409, slot := 1, constantValue := 0 }, { name := "LAST_TRADING_DAY", type := (.object "com/example/hour_ending/hourending/calendar/Anchor"), accessFlags := 16409, slot := 2, constantValue := 0 }, { name := "LAST_TRADING_DAY_LISTED_MONTHS_EARLIER", type := (.object "com/example/hour_ending/hourending/calendar/Anchor"), accessFlags := 16409, slot := 3, constantValue := 0 }, { name := "label", type := (.object "java/lang/String"), accessFlags := 18, slot := 3, constantValue := 0 }, { name := "$VALUES", type := (.array (.object "com/example/hour_ending/hourending/calendar/Anchor")), accessFlags := 4122, slot := 4, constantValue := 0 }]
  methods := #[k7m0]
  instanceTypes := #[(.object "java/lang/String"), .int, .int, (.object "java/lang/String")]
  staticTypes := #[(.object "com/example/hour_ending/hourending/calendar/Anchor"), (.object "com/example/hour_ending/hourending/calendar/Anchor"), (.object "com/example/hour_ending/hourending/calendar/Anchor"), (.object "com/example/hour_ending/hourending/calendar/Anchor"), (.array (.object "com/example/hour_ending/hourending/calendar/Anchor"))]
  resolved := Array.replicate 98 none
  statics := some 0 }

def pool8 : Array CpInfo := pool [(1, u "java/lang/Cloneable"), (0, .class_ 1), (0, u "java/lang/Object"), (0, .class_ 3)] 3

/-- java/lang/Cloneable -/
def k8 : Class := { plain "java/lang/Cloneable" (some 0) with
  accessFlags := 1537
  interfaces := #[]
  cf := some (fileOf pool8 2 #[] #[] 1537 4 #[] #[])
  fields := #[]
  methods := #[]
  instanceTypes := #[]
  staticTypes := #[]
  resolved := Array.replicate 8 none
  statics := none }

/-- the primitive byte -/
def k9 : Class := { plain "byte" none with kind := .primitive 'B', accessFlags := 0x411 }
/-- [B -/
def k10 : Class := { plain "[B" (some 0) with kind := .array 9 .byte, interfaces := #[8, 4], accessFlags := 1041 }

/-- the primitive int -/
def k11 : Class := { plain "int" none with kind := .primitive 'I', accessFlags := 0x411 }
/-- [I -/
def k12 : Class := { plain "[I" (some 0) with kind := .array 11 .int, interfaces := #[8, 4], accessFlags := 1041 }

def heap : Heap := #[{ cls := 7, slots := #[.ref 1, .ref 4, .ref 2, .ref 3, .null], vm := .statics 7 },
  { cls := 7, slots := #[.null, .int 0, .int 0, .null], vm := .none },
  { cls := 7, slots := #[.null, .int 2, .int 0, .null], vm := .none },
  { cls := 7, slots := #[.null, .int 3, .int 0, .null], vm := .none },
  { cls := 7, slots := #[.null, .int 1, .int 0, .null], vm := .none }]
def classes : Array Class := #[k0, k1, k2, k3, k4, k5, k6, k7, k8, k9, k10, k11, k12]
def interned : List (Array UInt16 × Addr) := []
def slotsUsed : Nat := 21
def theMethod : MethodId := ⟨1, 1⟩
def args0 : Array Value := #[.int 5]
def aboutOver (below : List Frame) : State where
  vm := { classes := classes, interned := interned.toArray }
  heap := heap
  slotsUsed := slotsUsed
  threads := #[{ frames := .invoking theMethod args0 :: below }]
def below0 : List Frame := [.native { method := ⟨0, 0⟩, args := #[] }]
def about1 : State := aboutOver below0
def p0 : Program := .bare "" "" ""
def e0 : Env := launch0.env 0 0 0
theorem w_frames : about1.frames = Frame.invoking theMethod args0 :: below0 := rfl
set_option maxRecDepth 65536 in
theorem w_args : argsFit about1.vm theMethod args0 = true := by decide +kernel
set_option maxRecDepth 65536 in
theorem w_heap : heapFits about1 = true := by decide +kernel
set_option maxRecDepth 65536 in
theorem w_runnable : about1.curStatus? = some .runnable := by decide +kernel
set_option maxRecDepth 65536 in
theorem w_alone : about1.alone = true := by decide +kernel
set_option maxRecDepth 65536 in
theorem w_named : about1.methodNamed? x = some theMethod := by decide +kernel
set_option maxRecDepth 65536 in
theorem w_hears : about1.hears theMethod below0 = true := by decide +kernel
set_option maxRecDepth 65536 in
theorem w_ripe : about1.ripe theMethod args0 below0 = true := by decide +kernel
theorem w_running : about1.status = .running := rfl
set_option maxRecDepth 65536 in
theorem w_room : about1.hasRoom e0.platform room_1 = true :=
  launch0.hasRoom_least _ room_1 (by decide +kernel) (by decide +kernel) (by decide +kernel) (by decide +kernel) (by decide +kernel) (by decide +kernel)
theorem allAtoms_all (ts : List Jvm.Cond) (a : Array Jvm.Value) (st : Jvm.State) : (allAtoms ts).before a st = ts.all (fun c => c.before a st) := by
  induction ts with
  | nil => rfl
  | cons c t ih =>
    show (Jvm.Cond.and c (allAtoms t)).before a st = _
    rw [Jvm.Cond.before_and, ih, List.all_cons]
def words1 : List Jvm.Cond := Jvm.Cond.code x code maxLocals ret :: tables_1
/-- a 'code' word, met by the world's own term for the bytes: nothing is compared byte by byte -/
theorem code_word {y : MethodName} {bytes : ByteArray} {mx : Nat} {rt : Option FieldType} {a : Array Value} {s : State} {m : MethodId} {meth : Method} {c : Code} (h1 : s.methodNamed? y = some m) (h2 : s.vm.method? m = some meth) (h3 : meth.code = some c) (h4 : c.code = bytes)
    (h5 : (c.maxLocals == mx && c.exceptionTable.isEmpty && decide (c.maxStack ≤ mostOperands) && decide (meth.sig.returnType = rt) && !meth.locks && decide (parseMethodDescriptor y.desc = some meth.sig)) = true) : (Jvm.Cond.code y bytes mx rt).before a s = true := by
  simp only [Bool.and_eq_true, beq_iff_eq, Bool.not_eq_true', decide_eq_true_eq] at h5
  obtain ⟨⟨⟨⟨⟨g1, g2⟩, g3⟩, g4⟩, g5⟩, g6⟩ := h5
  simp [Cond.before, Cond.holds, Cond.value, h1, h2, h3, h4, g1, g2, g3, g4, g5, g6]
def isCode : Jvm.Cond → Bool
  | .code _ _ _ _ => true
  | _ => false
theorem all_split {L : List Jvm.Cond} {P : Jvm.Cond → Bool} (h1 : L.all (fun c => isCode c || P c) = true) (h2 : ∀ c ∈ L.filter isCode, P c = true) : L.all P = true := by
  refine List.all_eq_true.mpr fun c hc => ?_
  have h := List.all_eq_true.mp h1 c hc
  rcases Bool.eq_false_or_eq_true (isCode c) with hi | hi
  · exact h2 c (List.mem_filter.mpr ⟨hc, hi⟩)
  · simpa [hi] using h
set_option maxRecDepth 65536 in
theorem w_c0 : (Jvm.Cond.code x code maxLocals ret).before args0 about1 = true := code_word (m := ⟨1, 1⟩) (meth := k1m1) (c := k1c1) (by decide +kernel) rfl rfl rfl (by decide +kernel)
set_option maxRecDepth 65536 in
theorem w_c1 : (Jvm.Cond.code ({ cls := "com/example/hour_ending/hourending/calendar/Anchor", name := "isLastTradingDay", desc := "()Z" } : Jvm.MethodName) prog_1_method_5_code (1 : Nat) (Option.some Jvm.ClassFile.FieldType.boolean)).before args0 about1 = true := code_word (m := ⟨7, 0⟩) (meth := k7m0) (c := k7c0) (by decide +kernel) rfl rfl rfl (by decide +kernel)
def codes1 : List Jvm.Cond := [Jvm.Cond.code x code maxLocals ret, Jvm.Cond.code ({ cls := "com/example/hour_ending/hourending/calendar/Anchor", name := "isLastTradingDay", desc := "()Z" } : Jvm.MethodName) prog_1_method_5_code (1 : Nat) (Option.some Jvm.ClassFile.FieldType.boolean)]
set_option maxRecDepth 65536 in
theorem codes_eq : words1.filter isCode = codes1 := rfl
theorem w_codes : ∀ c ∈ words1.filter isCode, c.before args0 about1 = true := by
  rw [codes_eq]
  intro c hc
  simp only [codes1, List.mem_cons, List.not_mem_nil, or_false] at hc
  rcases hc with rfl | rfl
  · exact w_c0
  · exact w_c1
set_option maxRecDepth 65536 in
theorem w_t1 : words1.all (fun c => isCode c || c.before args0 about1) = true := by decide +kernel
theorem w_tables : (allAtoms (Jvm.Cond.code x code maxLocals ret :: tables_1)).before args0 about1 = true := by
  rw [allAtoms_all]
  show words1.all (fun c => c.before args0 about1) = true
  refine all_split ?_ w_codes
  rw [w_t1]
set_option maxRecDepth 65536 in
theorem w_case : (Jvm.Cond.and given_1 narrow_1).before args0 about1 = true := by decide +kernel
theorem w_applies : (headSpec (Jvm.Cond.code x code maxLocals ret :: tables_1) room_1).applies x e0.platform about1 = true :=
  (Spec.applies_iff w_frames).mpr ⟨w_running, w_runnable, w_alone, w_named, w_hears, w_ripe, w_room, w_tables⟩
theorem atStart : AtStart classFile x code maxLocals ret World_1 tables_1 room_1 Calls_1 rest_1 Pre_1 launch0 p0 e0 about1 theMethod args0 below0 :=
  ⟨lists_1, trivial, launch0.admits_env _ _ _, launch0.least_env, fairChoices_fair.cas, fairChoices_fair.clock, w_frames, w_args, w_heap, w_applies, trivial, trivial, w_case⟩
end start1
theorem witness_1 : WitnessClaimed_1 := ⟨start1.p0, start1.e0, start1.about1, start1.theMethod, start1.args0, start1.below0, start1.atStart⟩
end Jvm.Pilot.@@N@@
