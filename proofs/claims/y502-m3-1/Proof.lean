import JvmDerived
import JvmDerived.Pilot.@@N@@Statement
import JvmDerived.Pilot.@@N@@Code
set_option linter.unusedVariables false
set_option linter.unusedSimpArgs false
@@BLOCK:NumsL.lean.txt@@
namespace Jvm.RoadKit
open Sem ClassFile Op Lib Jvm.Stand Jvm.Free Jvm.LawKit
section OwnNew
variable {p : Program} {l : Launch} {e : Env} {R : Room} {s : State} {m : MethodId} {args : Array Value} {below : List Frame} {meth : Method} {c : Code} {T : State} {locs : List Loc} {cells slots : Nat} {h : Heap}
/-- from S the run comes to an end of which Q holds -/
def OwnGo (p : Program) (e : Env) (below : List Frame) (S : State) (Q : Outcome → State → Prop) : Prop :=
  ∃ s₂ o, Steps p.tables e below S s₂ ∧ s₂.status = .running ∧ Ended s₂ below o ∧ Q o s₂
theorem own_go {S : State} {Q : Outcome → State → Prop} (k : OwnGo p e below S Q) : ∃ s₂ o, Steps p.tables e below S s₂ ∧ s₂.status = .running ∧ Ended s₂ below o ∧ Q o s₂ := k
theorem own_back {S S' : State} {Q : Outcome → State → Prop} (h : ∀ t, Steps p.tables e below S' t → Steps p.tables e below S t) (k : OwnGo p e below S' Q) : OwnGo p e below S Q := by
  obtain ⟨s2, o, h1, h2⟩ := k
  exact ⟨s2, o, h _ h1, h2⟩
theorem own_seq {S S' : State} {Q : Outcome → State → Prop} (h : Steps p.tables e below S S') (k : OwnGo p e below S' Q) : OwnGo p e below S Q := own_back (fun _ ht => h.trans ht) k
abbrev OwnEnd (s : State) (Qf : Option Value → Heap → List Loc → Prop) (C S : Nat) : Outcome → State → Prop := fun o U' => ∃ v L, o = .returned v ∧ Qf v U'.heap L ∧ FrameEnd s o U' L C S
theorem own_end (X : Stand p l e R s m args below meth c T locs cells slots) (hlocks : meth.locks = false) {v : Option Value} (hv : meth.sig.returnType = none → v = none) {S : State} {Qf : Option Value → Heap → List Loc → Prop} {C Sl : Nat} (eT : T.heap = h) (hc : cells ≤ C) (hs : slots ≤ Sl) (hq : Qf v h locs)
    (step : ∀ fs : List Frame, (∀ (f : JFrame) (acts : List Action), f.method = m → f.locked = none → f.entered = [] → (doReturn e (T.setTop f) acts v).1 = T.setFrames fs) → Steps p.tables e below S (T.setFrames fs)) : OwnGo p e below S (OwnEnd s Qf C Sl) := by
  obtain ⟨fs, hr, hrun, hended, hW, hsame⟩ := X.leave (v := v) hv hlocks
  refine ⟨_, _, step fs hr, hrun, hended, v, locs, rfl, ?_, ⟨_, rfl⟩, hW, hsame.mono hc hs⟩
  show Qf v T.heap locs
  rw [eT]; exact hq
theorem own_hat {T : State} {h : Heap} {a : Addr} {c : Cell} (e : T.heap = h) (q : h[a]? = some c) : T.heap[a]? = some c := by rw [e]; exact q
theorem own_hle {T : State} {h : Heap} {k : Nat} (e : T.heap = h) (q : k ≤ h.size) : k ≤ T.heap.size := by rw [e]; exact q
theorem own_backN {Z : State} {a0 : Array Value} {y : MethodName} {bytes : ByteArray} {maxL : Nat} {ret : Option FieldType} {rm : Room} {len W : Nat} {as' : Array Value} {Q : Option Value → Heap → List Loc → Prop}
    (hM : MetFree l y (head1 [Cond.code y bytes maxL ret] rm) (fun a U => a = as' ∧ Z.Warmed39 U.vm ∧ U.heap = h) (fun _ _ _ _ _ => True) (fun _ U o U' => OwnEnd U Q rm.cells rm.slots o U'))
    (hZ : Z.Warmed39 s.vm) (wc : (Cond.code y bytes maxL ret).before a0 Z = true) (wz : (Cond.initialized y.cls).before a0 Z = true) (hf : rm.frames + 1 ≤ R.frames) (hl : W + (maxL + 11) + rm.locals ≤ R.locals) :
    Back l R p e below s args y len W (fun A a => a = as' ∧ A.U.heap = h ∧ A.cells + rm.cells ≤ R.cells ∧ A.slots + rm.slots ≤ R.slots)
      (fun A _ v B => ∃ L, Q v B.U.heap L ∧ B.locs = A.locs ++ L ∧ B.cells = A.cells + rm.cells ∧ B.slots = A.slots + rm.slots) := backOf (Q := Q) hM hZ wc wz hf hl
theorem own_retN (X : Stand p l e R s m args below meth c T locs cells slots) (hx : p.tables.exec = Jvm.exec) (hlocks : meth.locks = false) {pc : Nat} {Ls : Array Slot} {z : Int32} {t : FieldType} {rest : List Value} (hret : meth.sig.returnType = some t) (ht : t = .boolean ∨ t = .byte ∨ t = .char ∨ t = .short) (hn : nar t z = z)
    (hd : decode c.code pc = .ok (.ireturn, 1)) {Qf : Option Value → Heap → List Loc → Prop} {C Sl : Nat} (eT : T.heap = h) (hc : cells ≤ C) (hs : slots ≤ Sl) (hq : Qf (some (.int z)) h locs) : OwnGo p e below (T.setTop (mkF m pc Ls (.int z :: rest))) (OwnEnd s Qf C Sl) :=
  own_end X hlocks (fun h => by rw [hret] at h; cases h) eT hc hs hq fun fs hr => retN X hx hret ht hd (by rw [hn]; exact hr)
theorem own_retI (X : Stand p l e R s m args below meth c T locs cells slots) (hx : p.tables.exec = Jvm.exec) (hlocks : meth.locks = false) {pc : Nat} {Ls : Array Slot} {z : Int32} {rest : List Value} (hret : meth.sig.returnType = some .int)
    (hd : decode c.code pc = .ok (.ireturn, 1)) {Qf : Option Value → Heap → List Loc → Prop} {C Sl : Nat} (eT : T.heap = h) (hc : cells ≤ C) (hs : slots ≤ Sl) (hq : Qf (some (.int z)) h locs) : OwnGo p e below (T.setTop (mkF m pc Ls (.int z :: rest))) (OwnEnd s Qf C Sl) :=
  own_end X hlocks (fun h => by rw [hret] at h; cases h) eT hc hs hq fun fs hr => retOut X hx hret rfl (Or.inl ⟨rfl, Or.inl rfl, z, rfl⟩) hd hr
theorem own_retJ (X : Stand p l e R s m args below meth c T locs cells slots) (hx : p.tables.exec = Jvm.exec) (hlocks : meth.locks = false) {pc : Nat} {Ls : Array Slot} {z : Int64} {rest : List Value} (hret : meth.sig.returnType = some .long)
    (hd : decode c.code pc = .ok (.lreturn, 1)) {Qf : Option Value → Heap → List Loc → Prop} {C Sl : Nat} (eT : T.heap = h) (hc : cells ≤ C) (hs : slots ≤ Sl) (hq : Qf (some (.long z)) h locs) : OwnGo p e below (T.setTop (mkF m pc Ls (.long z :: rest))) (OwnEnd s Qf C Sl) :=
  own_end X hlocks (fun h => by rw [hret] at h; cases h) eT hc hs hq fun fs hr => retOut X hx hret rfl (Or.inr (Or.inl ⟨rfl, rfl, z, rfl⟩)) hd hr
theorem own_narA {t : FieldType} {w : Value} (h : w.isRef = true) : narrow t w = w := by
  rcases ref_cases h with rfl | ⟨a, rfl⟩ <;> cases t <;> rfl
theorem own_retA (X : Stand p l e R s m args below meth c T locs cells slots) (hx : p.tables.exec = Jvm.exec) (hlocks : meth.locks = false) {pc : Nat} {Ls : Array Slot} {w : Value} {t : FieldType} {rest : List Value} (hret : meth.sig.returnType = some t) (ht : t.isReference = true) (hw : w.isRef = true)
    (hd : decode c.code pc = .ok (.areturn, 1)) {Qf : Option Value → Heap → List Loc → Prop} {C Sl : Nat} (eT : T.heap = h) (hc : cells ≤ C) (hs : slots ≤ Sl) (hq : Qf (some w) h locs) : OwnGo p e below (T.setTop (mkF m pc Ls (w :: rest))) (OwnEnd s Qf C Sl) :=
  own_end X hlocks (fun h => by rw [hret] at h; cases h) eT hc hs hq fun fs hr => retOut X hx hret (own_narA hw) (Or.inr (Or.inr (Or.inr (Or.inr ⟨rfl, ht, hw⟩)))) hd hr
theorem own_retV (X : Stand p l e R s m args below meth c T locs cells slots) (hx : p.tables.exec = Jvm.exec) (hlocks : meth.locks = false) {pc : Nat} {Ls : Array Slot} (hret : meth.sig.returnType = none)
    (hd : decode c.code pc = .ok (.return_, 1)) {Qf : Option Value → Heap → List Loc → Prop} {C Sl : Nat} (eT : T.heap = h) (hc : cells ≤ C) (hs : slots ≤ Sl) (hq : Qf none h locs) : OwnGo p e below (T.setTop (mkF m pc Ls [])) (OwnEnd s Qf C Sl) :=
  own_end X hlocks (fun _ => rfl) eT hc hs hq fun fs hr => X.returnOut hx hret hd hr
end OwnNew
section OwnTerms
variable {args : Array Value} {first s : State} {o : Option Outcome} {idx : List Nat} {t u : Term}
theorem own_eqint {k : Int32} (h : (Cond.eq t (.int k)).value args first o s idx = some true) : t.eval args first o idx s = some (.int k) := by
  cases ha : t.eval args first o idx s with
  | none => simp [Cond.value, ha] at h
  | some x =>
    have hb : (Term.int k).eval args first o idx s = some (.int k) := Term.int_eval k
    cases x <;> simp [Cond.value, ha, hb, Value.isRef] at h ⊢
    exact h
theorem own_eqref {w : Addr} (hu : u.eval args first o idx s = some (.ref w)) (h : (Cond.eq t u).value args first o s idx = some true) : t.eval args first o idx s = some (.ref w) := by
  cases ha : t.eval args first o idx s with
  | none => simp [Cond.value, ha] at h
  | some x =>
    cases x <;> simp [Cond.value, ha, hu, Value.isRef] at h ⊢
    exact h
end OwnTerms
section OwnArr
variable {s : State} {args : Array Value} {t u : Term} {a : Addr} {c : Cell} {ty : FieldType}
theorem own_nat32 {n : Nat} (h : n < 2 ^ 31) : n.toInt32.toNatClampNeg = n := by
  have e : n.toInt32.toInt = n := Int32.toInt_ofNat_of_lt h
  have := nat_of (j := n.toInt32) (by rw [Int32.lt_iff_toInt_lt, e]; have z : (0 : Int32).toInt = 0 := rfl; omega)
  omega
theorem own_len {n : Int32} (A : Arr s s.heap a c ty) (et : t.eval args s none [] s = some (.ref a)) (h : (Cond.eq (.length t) (.int n)).value args s none s [] = some true) {k : Nat} (hk : n.toNatClampNeg = k := by rfl) : c.slots.size = k := by
  have e := own_eqint h
  have ha : s.arrayAt? a = some c := IntBox.arrayAt_of A.1 A.2.1 A.2.2
  by_cases hl : c.slots.size < 2 ^ 31
  · rw [len_f et ha hl] at e
    have e2 : c.slots.size.toInt32 = n := by injection e with e; injection e
    rw [← hk, ← e2]
    exact (own_nat32 hl).symm
  · simp [Term.eval, et, ha, hl] at e
theorem own_elem {j k : Int32} (A : Arr s s.heap a c ty) (et : t.eval args s none [] s = some (.ref a)) (h : (Cond.eq (.elem t (.int j)) (.int k)).value args s none s [] = some true) (hj : ¬ j < 0) : c.slots[j.toNatClampNeg]? = some (.int k) := by
  have e := own_eqint h
  have ha : s.arrayAt? a = some c := IntBox.arrayAt_of A.1 A.2.1 A.2.2
  rw [elem_f et (Term.int_eval j) ha hj] at e
  exact e
theorem own_elemR {j : Int32} {w : Addr} (A : Arr s s.heap a c ty) (et : t.eval args s none [] s = some (.ref a)) (hu : u.eval args s none [] s = some (.ref w)) (h : (Cond.eq (.elem t (.int j)) u).value args s none s [] = some true) (hj : ¬ j < 0) : c.slots[j.toNatClampNeg]? = some (.ref w) := by
  have e := own_eqref hu h
  have ha : s.arrayAt? a = some c := IntBox.arrayAt_of A.1 A.2.1 A.2.2
  rw [elem_f et (Term.int_eval j) ha hj] at e
  exact e
end OwnArr
section OwnMore
variable {Z : State} {h h' : Heap}
theorem own_arr_ne {a b : Addr} {c d : Cell} {t u : FieldType} (A : Arr Z h a c t) (B : Arr Z h b d u) (q : t ≠ u) : a ≠ b := fun e => by
  subst e
  cases A.1.symm.trans B.1
  obtain ⟨-, k1, h1, cp1, h2⟩ := A.2.1
  obtain ⟨-, k2, h3, cp2, h4⟩ := B.2.1
  cases h1.symm.trans h3
  rw [h2] at h4
  injection h4 with _ h5
  exact q h5
theorem own_arv_ne {a b : Addr} {k k' : ClassId} {t u : FieldType} {z z' : Int32} {vs vs' : List Value} {d d' : Value} (A : Arv Z h a k t z vs d) (B : Arv Z h b k' u z' vs' d') (q : t ≠ u) : a ≠ b := by
  obtain ⟨c, A, -⟩ := A
  obtain ⟨c', B, -⟩ := B
  exact own_arr_ne A B q
theorem own_ext (K : Keep h h' []) : Ext h h' := ⟨K.1, fun x c q => K.2.1 x c q nin0⟩
theorem own_fitA {t : FieldType} {w : Value} (hw : w.isRef = true) (ht : t.isReference = true := by rfl) : fits t w = true := by
  rcases ref_cases hw with rfl | ⟨a, rfl⟩ <;> cases t <;> first | rfl | cases ht
end OwnMore
section OwnRem
variable {p : Program} {l : Launch} {e : Env} {R : Room} {s : State} {m : MethodId} {args : Array Value} {below : List Frame} {meth : Method} {c : Code} {T : State} {locs : List Loc} {cells slots : Nat}
theorem own_lrem {g : JFrame} {target : State} (X : Stand p l e R s m args below meth c T locs cells slots) (hx : p.tables.exec = Jvm.exec) (hg : g.method = m) {x y : Int64} {rest : List Value} (hd : decode c.code g.pc = .ok (.lrem, 1)) (hs : g.stack = .long y :: .long x :: rest) (hy : y ≠ 0)
    (hr : Steps p.tables e below (T.setTop { g with pc := g.pc + 1, stack := .long (x % y) :: rest }) target) : Steps p.tables e below (T.setTop g) target :=
  XS.lrem X.here hx hg hd hs hy (by rw [lrem_mod]; exact hr)
end OwnRem
end Jvm.RoadKit
namespace Jvm.Pilot.@@N@@
open Jvm Jvm.ClassFile Sem Op Lib Jvm.Free Jvm.Stand Jvm.LawKit Jvm.RoadKit Bundle Jvm.Pilot.@@N@@.Jvm.D
abbrev own_hi (q : Int64) : Int32 := ((q.toUInt64 >>> ((32 : Int32) &&& 0x3f).toInt64.toUInt64).toInt64).toInt32
/-- the magnitude of a long that isn't negative -/
def OwnMag (r : Int64) (n : Int32) (vs : List Value) : Prop := (r = 0 ∧ n = 0 ∧ vs = []) ∨ (0 < r ∧ own_hi r = 0 ∧ n = 1 ∧ vs = [.int r.toInt32]) ∨ (0 < r ∧ ¬ own_hi r = 0 ∧ n = 2 ∧ vs = [.int (own_hi r), .int r.toInt32])
/-- a is a BigInteger of the value r -/
def OwnBig (Z : State) (h : Heap) (a : Addr) (r : Int64) : Prop := ∃ (t : Addr) (k : ClassId) (n : Int32) (vs : List Value), Exa Z h a "java/math/BigInteger" ∧ Fld Z h a "java/math/BigInteger" "signum" "I" (.int (if r = 0 then 0 else 1)) ∧ Fld Z h a "java/math/BigInteger" "mag" "[I" (.ref t) ∧ Arv Z h t k .int n vs (.int 0) ∧ OwnMag r n vs
theorem OwnBig.ext {Z : State} {h h' : Heap} {a : Addr} {r : Int64} (E : Ext h h') (F : OwnBig Z h a r) : OwnBig Z h' a r := by
  obtain ⟨t, k, n, vs, h1, h2, h3, h4, h5⟩ := F
  exact ⟨t, k, n, vs, h1.ext E, h2.ext E, h3.ext E, h4.ext E, h5⟩
theorem OwnBig.exa {Z : State} {h : Heap} {a : Addr} {r : Int64} (F : OwnBig Z h a r) : Exa Z h a "java/math/BigInteger" := by
  obtain ⟨t, k, n, vs, h1, h2, h3, h4, h5⟩ := F
  exact h1
def own_cmp (r q : Int64) : Int32 := if q < r then 1 else if r = q then 0 else -1
theorem own_hi_eq (r : Int64) (h : ¬ r < 0) : (own_hi r).toInt = r.toInt / 4294967296 := by
  have h1 := c_lushr r 32 32 (by decide) (by decide)
  have h2 := c_l2i ((r.toUInt64 >>> ((32 : Int32) &&& 0x3f).toInt64.toUInt64).toInt64)
  have h3 := (own_hi r).toInt_lt
  have h4 := (own_hi r).le_toInt
  have h5 := r.toInt_lt
  have h6 : 0 ≤ r.toInt := by rw [Int64.lt_iff_toInt_lt] at h; have z : (0 : Int64).toInt = 0 := rfl; omega
  simp only [own_hi] at *
  omega
theorem own_lo_eq (r : Int64) (h : ¬ r < 0) : r.toInt32.toInt % 4294967296 = r.toInt % 4294967296 := by
  have := c_l2i r
  omega
theorem own_mk (x : Int32) : (x.toInt64 &&& (4294967295 : Int64)).toInt = x.toInt % 4294967296 := by
  have h := c_maskL x.toInt64 4294967295 32 (by decide) (by decide)
  rw [h, c_i2l]; rfl
theorem own_pos {r : Int64} (h : 0 < r) : ¬ r < 0 := by rw [Int64.lt_iff_toInt_lt] at *; omega
theorem own_cmp_lt {r q : Int64} (h : r.toInt < q.toInt) : own_cmp r q = -1 := by
  have h1 : ¬ q < r := by rw [Int64.lt_iff_toInt_lt]; omega
  have h2 : ¬ r = q := fun e => by subst e; omega
  simp [own_cmp, h1, h2]
theorem own_cmp_gt {r q : Int64} (h : q.toInt < r.toInt) : own_cmp r q = 1 := by
  have h1 : q < r := by rw [Int64.lt_iff_toInt_lt]; omega
  simp [own_cmp, h1]
theorem own_cmp_eq {r q : Int64} (h : q.toInt = r.toInt) : own_cmp r q = 0 := by
  have h1 : ¬ q < r := by rw [Int64.lt_iff_toInt_lt]; omega
  have h2 : r = q := Int64.toInt_inj.mp h.symm
  simp [own_cmp, h1, h2]
theorem own_ii {x y : Int32} : x = y ↔ x.toInt = y.toInt := ⟨congrArg _, Int32.toInt_inj.mp⟩
theorem own_z64 : (0 : Int64).toInt = 0 := rfl
theorem own_z32 : (0 : Int32).toInt = 0 := rfl
theorem nm_d0 : decode jdk_18_method_1_code 0 = .ok (.aload_n 0, 1) := by decide +kernel
theorem nm_d1 : decode jdk_18_method_1_code 1 = .ok (.invokespecial 1, 3) := by decide +kernel
theorem nm_d4 : decode jdk_18_method_1_code 4 = .ok (.return_, 1) := by decide +kernel
theorem nm_pn : plainName "java/lang/Number" = true := by first | (simp [plainName, overriddenIn]; done) | decide +kernel
theorem nm_ef (m : MethodId) (x0 : Addr) : entryFrame m #[(.ref x0)] 1 = mkF m 0 #[.val (.ref x0)] [] := by first | (simp [entryFrame, mkF, argsToLocals, Value.category]; done) | rfl
set_option maxRecDepth 65536 in
set_option maxHeartbeats 40000000 in
theorem rm_num (l : Launch) (Z : State) (a0 : Array Value) (hw : ∀ d ∈ tables_1, d.before a0 Z = true) (ws : List Jvm.Cond) (a1 : Addr) (h0 : Heap) (n0 : Nat) (Z0 : n0 ≤ h0.size)  :
    MetFree l (⟨"java/lang/Number", "<init>", "()V"⟩ : MethodName) (head1 (Jvm.Cond.code (⟨"java/lang/Number", "<init>", "()V"⟩ : MethodName) jdk_18_method_1_code 1 none :: ws) ({ frames := 1, cells := 0, slots := 0, locals := 12 } : Room)) (fun a U => a = #[(.ref a1)] ∧ Z.Warmed39 U.vm ∧ U.heap = h0) (fun _ _ _ _ _ => True) (fun _ U o U' => OwnEnd U (fun v h L => v = none ∧ Fr n0 L ∧ h = h0) ({ frames := 1, cells := 0, slots := 0, locals := 12 } : Room).cells ({ frames := 1, cells := 0, slots := 0, locals := 12 } : Room).slots o U') := by
  refine MetFree.of_bodySF (plainFor_of_name nm_pn) hisR ?_
  intro p e s m args below meth c s₁ Bd hml0 hP hK
  obtain ⟨rfl, hZ, hh⟩ := hP
  have hx := Bd.exec
  have hby := Bd.bytes
  have hml : c.maxLocals = 1 := hml0
  have hown : s.vm.findClass "java/lang/Number" = some m.cls := findClass_of_methodNamed Bd.named
  have hnm := (name_of_methodNamed Bd.named Bd.method).1
  have X0 : Stand p l e ({ frames := 1, cells := 0, slots := 0, locals := 12 } : Room) s m #[(.ref a1)] below meth c s₁ [] 0 0 := Stand.of_body Bd
  have e0 : s₁.heap = h0 := by rw [← hh, Bd.state]; rfl
  have N0 := Fr.nil n0
  have KP0 := Keep.refl h0 []
  refine own_go (Q := (OwnEnd s (fun v h L => v = none ∧ Fr n0 L ∧ h = h0) ({ frames := 1, cells := 0, slots := 0, locals := 12 } : Room).cells ({ frames := 1, cells := 0, slots := 0, locals := 12 } : Room).slots)) ?_
  refine own_back (fun t k => castTop (nm_ef m a1) k) ?_
  show OwnGo p e below (s₁.setTop (mkF m 0 #[.val (.ref a1)] [])) _
  refine own_back (fun t k => XS.aloadN X0.here hx rfl (hb hby nm_d0) rfl rfl k) ?_
  show OwnGo p e below (s₁.setTop (mkF m 1 #[.val (.ref a1)] [(.ref a1)])) _
  obtain ⟨T101, X101, e101, st101⟩ := initO X0 hx hZ hown (hw _ (List.mem_of_getElem? (i := 67) rfl)) (hw _ (List.mem_of_getElem? (i := 13) rfl)) (hw _ (List.mem_of_getElem? (i := 14) rfl)) e0 (g := (mkF m 1 #[.val (.ref a1)] [(.ref a1)])) rfl (by rw [hml]; rfl) rfl (hb hby nm_d1) (by decide) (W := 0) (by show 2 * 0 + _ ≤ _; exact Nat.le_of_eq rfl) (by decide)
  refine own_back st101 ?_
  show OwnGo p e below (T101.setTop (mkF m 4 #[.val (.ref a1)] [])) _
  refine own_retV X101 hx Bd.notSynchronized Bd.returns (hb hby nm_d4) e101 (Nat.le_of_ble_eq_true rfl) (Nat.le_of_ble_eq_true rfl) ?_
  exact ⟨rfl, N0, rfl⟩
theorem bi_d0 : decode jdk_2097_method_30_code 0 = .ok (.aload_n 0, 1) := by decide +kernel
theorem bi_d1 : decode jdk_2097_method_30_code 1 = .ok (.invokespecial 3, 3) := by decide +kernel
theorem bi_d4 : decode jdk_2097_method_30_code 4 = .ok (.lload_n 1, 1) := by decide +kernel
theorem bi_d5 : decode jdk_2097_method_30_code 5 = .ok (.lconst 0, 1) := by decide +kernel
theorem bi_d6 : decode jdk_2097_method_30_code 6 = .ok (.lcmp, 1) := by decide +kernel
theorem bi_d7 : decode jdk_2097_method_30_code 7 = .ok (.ifCond .ge 14, 3) := by decide +kernel
theorem bi_d21 : decode jdk_2097_method_30_code 21 = .ok (.aload_n 0, 1) := by decide +kernel
theorem bi_d22 : decode jdk_2097_method_30_code 22 = .ok (.iconst 1, 1) := by decide +kernel
theorem bi_d23 : decode jdk_2097_method_30_code 23 = .ok (.putfield 32, 3) := by decide +kernel
theorem bi_d26 : decode jdk_2097_method_30_code 26 = .ok (.lload_n 1, 1) := by decide +kernel
theorem bi_d27 : decode jdk_2097_method_30_code 27 = .ok (.bipush 32, 2) := by decide +kernel
theorem bi_d29 : decode jdk_2097_method_30_code 29 = .ok (.lushr, 1) := by decide +kernel
theorem bi_d30 : decode jdk_2097_method_30_code 30 = .ok (.l2i, 1) := by decide +kernel
theorem bi_d31 : decode jdk_2097_method_30_code 31 = .ok (.istore_n 3, 1) := by decide +kernel
theorem bi_d32 : decode jdk_2097_method_30_code 32 = .ok (.iload_n 3, 1) := by decide +kernel
theorem bi_d33 : decode jdk_2097_method_30_code 33 = .ok (.ifCond .ne 21, 3) := by decide +kernel
theorem bi_d36 : decode jdk_2097_method_30_code 36 = .ok (.aload_n 0, 1) := by decide +kernel
theorem bi_d37 : decode jdk_2097_method_30_code 37 = .ok (.iconst 1, 1) := by decide +kernel
theorem bi_d38 : decode jdk_2097_method_30_code 38 = .ok (.newarray .int, 2) := by decide +kernel
theorem bi_d40 : decode jdk_2097_method_30_code 40 = .ok (.putfield 28, 3) := by decide +kernel
theorem bi_d43 : decode jdk_2097_method_30_code 43 = .ok (.aload_n 0, 1) := by decide +kernel
theorem bi_d44 : decode jdk_2097_method_30_code 44 = .ok (.getfield 28, 3) := by decide +kernel
theorem bi_d47 : decode jdk_2097_method_30_code 47 = .ok (.iconst 0, 1) := by decide +kernel
theorem bi_d48 : decode jdk_2097_method_30_code 48 = .ok (.lload_n 1, 1) := by decide +kernel
theorem bi_d49 : decode jdk_2097_method_30_code 49 = .ok (.l2i, 1) := by decide +kernel
theorem bi_d50 : decode jdk_2097_method_30_code 50 = .ok (.iastore, 1) := by decide +kernel
theorem bi_d51 : decode jdk_2097_method_30_code 51 = .ok (.goto 25, 3) := by decide +kernel
theorem bi_d54 : decode jdk_2097_method_30_code 54 = .ok (.aload_n 0, 1) := by decide +kernel
theorem bi_d55 : decode jdk_2097_method_30_code 55 = .ok (.iconst 2, 1) := by decide +kernel
theorem bi_d56 : decode jdk_2097_method_30_code 56 = .ok (.newarray .int, 2) := by decide +kernel
theorem bi_d58 : decode jdk_2097_method_30_code 58 = .ok (.putfield 28, 3) := by decide +kernel
theorem bi_d61 : decode jdk_2097_method_30_code 61 = .ok (.aload_n 0, 1) := by decide +kernel
theorem bi_d62 : decode jdk_2097_method_30_code 62 = .ok (.getfield 28, 3) := by decide +kernel
theorem bi_d65 : decode jdk_2097_method_30_code 65 = .ok (.iconst 0, 1) := by decide +kernel
theorem bi_d66 : decode jdk_2097_method_30_code 66 = .ok (.iload_n 3, 1) := by decide +kernel
theorem bi_d67 : decode jdk_2097_method_30_code 67 = .ok (.iastore, 1) := by decide +kernel
theorem bi_d68 : decode jdk_2097_method_30_code 68 = .ok (.aload_n 0, 1) := by decide +kernel
theorem bi_d69 : decode jdk_2097_method_30_code 69 = .ok (.getfield 28, 3) := by decide +kernel
theorem bi_d72 : decode jdk_2097_method_30_code 72 = .ok (.iconst 1, 1) := by decide +kernel
theorem bi_d73 : decode jdk_2097_method_30_code 73 = .ok (.lload_n 1, 1) := by decide +kernel
theorem bi_d74 : decode jdk_2097_method_30_code 74 = .ok (.l2i, 1) := by decide +kernel
theorem bi_d75 : decode jdk_2097_method_30_code 75 = .ok (.iastore, 1) := by decide +kernel
theorem bi_d76 : decode jdk_2097_method_30_code 76 = .ok (.return_, 1) := by decide +kernel
theorem bi_pn : plainName "java/math/BigInteger" = true := by first | (simp [plainName, overriddenIn]; done) | decide +kernel
theorem bi_pd0 : parseMethodDescriptor "()V" = some ⟨[], none⟩ := by decide +kernel
theorem bi_ef (m : MethodId) (x0 : Addr) (x1 : Int64) : entryFrame m #[(.ref x0), (.long x1)] 4 = mkF m 0 #[.val (.ref x0), .val (.long x1), .second, .unset] [] := by first | (simp [entryFrame, mkF, argsToLocals, Value.category]; done) | rfl
set_option maxRecDepth 65536 in
set_option maxHeartbeats 40000000 in
theorem rm_bi (l : Launch) (Z : State) (a0 : Array Value) (hw : ∀ d ∈ tables_1, d.before a0 Z = true) (ws : List Jvm.Cond) (a1 : Addr) (q : Int64) (us : Value) (um : Value) (h0 : Heap) (n0 : Nat) (Z0 : n0 ≤ h0.size) (OL : Old Z n0 h0) (E1 : Exa Z h0 a1 "java/math/BigInteger") (F1 : Fld Z h0 a1 "java/math/BigInteger" "signum" "I" us) (F2 : Fld Z h0 a1 "java/math/BigInteger" "mag" "[I" um) (g1 : n0 ≤ a1) (hq : 0 < q) :
    MetFree l (⟨"java/math/BigInteger", "<init>", "(J)V"⟩ : MethodName) (head1 (Jvm.Cond.code (⟨"java/math/BigInteger", "<init>", "(J)V"⟩ : MethodName) jdk_2097_method_30_code 4 none :: ws) ({ frames := 2, cells := 1, slots := 2, locals := 30 } : Room)) (fun a U => a = #[(.ref a1), (.long q)] ∧ Z.Warmed39 U.vm ∧ U.heap = h0) (fun _ _ _ _ _ => True) (fun _ U o U' => OwnEnd U (fun v h L => v = none ∧ Fr n0 L ∧ Keep h0 h [a1] ∧ OwnBig Z h a1 q) ({ frames := 2, cells := 1, slots := 2, locals := 30 } : Room).cells ({ frames := 2, cells := 1, slots := 2, locals := 30 } : Room).slots o U') := by
  refine MetFree.of_bodySF (plainFor_of_name bi_pn) hisR ?_
  intro p e s m args below meth c s₁ Bd hml0 hP hK
  obtain ⟨rfl, hZ, hh⟩ := hP
  have hx := Bd.exec
  have hby := Bd.bytes
  have hml : c.maxLocals = 4 := hml0
  have hown : s.vm.findClass "java/math/BigInteger" = some m.cls := findClass_of_methodNamed Bd.named
  have hnm := (name_of_methodNamed Bd.named Bd.method).1
  have X0 : Stand p l e ({ frames := 2, cells := 1, slots := 2, locals := 30 } : Room) s m #[(.ref a1), (.long q)] below meth c s₁ [] 0 0 := Stand.of_body Bd
  have e0 : s₁.heap = h0 := by rw [← hh, Bd.state]; rfl
  have N0 := Fr.nil n0
  have KP0 := Keep.refl h0 [a1]
  refine own_go (Q := (OwnEnd s (fun v h L => v = none ∧ Fr n0 L ∧ Keep h0 h [a1] ∧ OwnBig Z h a1 q) ({ frames := 2, cells := 1, slots := 2, locals := 30 } : Room).cells ({ frames := 2, cells := 1, slots := 2, locals := 30 } : Room).slots)) ?_
  refine own_back (fun t k => castTop (bi_ef m a1 q) k) ?_
  show OwnGo p e below (s₁.setTop (mkF m 0 #[.val (.ref a1), .val (.long q), .second, .unset] [])) _
  refine own_back (fun t k => XS.aloadN X0.here hx rfl (hb hby bi_d0) rfl rfl k) ?_
  show OwnGo p e below (s₁.setTop (mkF m 1 #[.val (.ref a1), .val (.long q), .second, .unset] [(.ref a1)])) _
  obtain ⟨_, _, ⟨T102, L102, k102, n102⟩, -, X102, ⟨Lc102, hQ102, l102, y102, z102⟩, st102⟩ := X0.specialBack hx (y := (⟨"java/lang/Number", "<init>", "()V"⟩ : MethodName)) rfl hown (mvT hZ (hw _ (List.mem_of_getElem? (i := 61) rfl))) (mvT hZ (hw _ (List.mem_of_getElem? (i := 62) rfl))) (mvT hZ (hw _ (List.mem_of_getElem? (i := 66) rfl))) (by decide) (own_backN (W := 0) (rm_num l Z a0 hw [] a1 h0 n0 Z0) hZ (hw _ (List.mem_of_getElem? (i := 66) rfl)) (hw _ (List.mem_of_getElem? (i := 65) rfl)) (by decide) (by decide)) (g := (mkF m 1 #[.val (.ref a1), .val (.long q), .second, .unset] [(.ref a1)])) rfl (by rw [hml]; rfl) (Steps.refl _) (a := a1) (argsL := []) (rest := []) (lenOf bi_pd0 rfl) rfl (by show 2 * 0 + _ ≤ _; exact Nat.le_of_eq rfl) (hb hby bi_d1) (fun _ _ => ⟨rfl, e0, Nat.le_of_ble_eq_true rfl, Nat.le_of_ble_eq_true rfl⟩)
  dsimp only [Pt.U, Pt.locs, Pt.cells, Pt.slots] at X102 l102 y102 z102 st102 hQ102
  subst l102 y102 z102
  obtain ⟨rfl, N102q, hh102⟩ := hQ102
  refine own_seq st102 ?_
  have N102 := Fr.app N0 N102q
  show OwnGo p e below (T102.setTop (mkF m 4 #[.val (.ref a1), .val (.long q), .second, .unset] [])) _
  refine own_back (fun t k => XS.lloadN X102.here hx rfl (hb hby bi_d4) rfl k) ?_
  show OwnGo p e below (T102.setTop (mkF m 5 #[.val (.ref a1), .val (.long q), .second, .unset] [(.long q)])) _
  refine own_back (fun t k => XS.lconst X102.here hx rfl (hb hby bi_d5) k) ?_
  show OwnGo p e below (T102.setTop (mkF m 6 #[.val (.ref a1), .val (.long q), .second, .unset] [(.long (0 : Int64)), (.long q)])) _
  refine own_back (fun t k => XT.lcmp X102.here hx rfl (hb hby bi_d6) rfl k) ?_
  show OwnGo p e below (T102.setTop (mkF m 7 #[.val (.ref a1), .val (.long q), .second, .unset] [(.int (XT.cmpL q (0 : Int64)))])) _
  refine own_back (fun t k => XS.ifYes X102.here hx rfl (pc0 := 7) (pc' := 21) rfl (hb hby bi_d7) rfl (Jvm.Free.XT.ll_ge_t (own_pos hq)) (by decide) (by decide) k) ?_
  show OwnGo p e below (T102.setTop (mkF m 21 #[.val (.ref a1), .val (.long q), .second, .unset] [])) _
  refine own_back (fun t k => XS.aloadN X102.here hx rfl (hb hby bi_d21) rfl rfl k) ?_
  show OwnGo p e below (T102.setTop (mkF m 22 #[.val (.ref a1), .val (.long q), .second, .unset] [(.ref a1)])) _
  refine own_back (fun t k => XS.iconst X102.here hx rfl (hb hby bi_d22) k) ?_
  show OwnGo p e below (T102.setTop (mkF m 23 #[.val (.ref a1), .val (.long q), .second, .unset] [(.int (1 : Int32)), (.ref a1)])) _
  obtain ⟨T103, h103, X103, e103, W103, st103⟩ := putF X102 hx hZ hown (host := "") (Or.inl (hw _ (List.mem_of_getElem? (i := 43) rfl))) Via.refl hh102 F1 E1 (Or.inr ⟨(hw _ (List.mem_of_getElem? (i := 44) rfl)), rfl, hnm⟩) (hw _ (List.mem_of_getElem? (i := 56) rfl)) (ty := .int) (by decide) rfl rfl (g := (mkF m 23 #[.val (.ref a1), .val (.long q), .second, .unset] [(.int (1 : Int32)), (.ref a1)])) rfl rfl (hb hby bi_d23)
  have O104 := OL.wr W103 g1
  have KP105 := KP0.wr W103 (Or.inl (List.mem_of_getElem? (i := 0) rfl))
  have Zs106 := Nat.le_trans Z0 (Keep.of_wr W103).1
  have f107 := E1.wr W103
  have f108 := F2.other W103 (Or.inr (slot_ne (Or.inr (hw _ (List.mem_of_getElem? (i := 51) rfl))) (Or.inr (hw _ (List.mem_of_getElem? (i := 44) rfl))) (by decide) (t := (.array .int)) (t' := .int) (by decide) (by decide)))
  have F109 := F1.same W103
  have N110 := Fr.snoc X103 N102 g1
  refine own_back st103 ?_
  show OwnGo p e below (T103.setTop (mkF m 26 #[.val (.ref a1), .val (.long q), .second, .unset] [])) _
  refine own_back (fun t k => XS.lloadN X103.here hx rfl (hb hby bi_d26) rfl k) ?_
  show OwnGo p e below (T103.setTop (mkF m 27 #[.val (.ref a1), .val (.long q), .second, .unset] [(.long q)])) _
  refine own_back (fun t k => XS.bipush X103.here hx rfl (hb hby bi_d27) k) ?_
  show OwnGo p e below (T103.setTop (mkF m 29 #[.val (.ref a1), .val (.long q), .second, .unset] [(.int (32 : Int32)), (.long q)])) _
  refine own_back (fun t k => XS.lushr X103.here hx rfl (hb hby bi_d29) rfl k) ?_
  show OwnGo p e below (T103.setTop (mkF m 30 #[.val (.ref a1), .val (.long q), .second, .unset] [(.long ((q.toUInt64 >>> ((32 : Int32) &&& 0x3f).toInt64.toUInt64).toInt64))])) _
  refine own_back (fun t k => XS.l2i X103.here hx rfl (hb hby bi_d30) rfl k) ?_
  show OwnGo p e below (T103.setTop (mkF m 31 #[.val (.ref a1), .val (.long q), .second, .unset] [(.int ((q.toUInt64 >>> ((32 : Int32) &&& 0x3f).toInt64.toUInt64).toInt64).toInt32)])) _
  refine own_back (fun t k => XS.istoreN X103.here hx rfl (hb hby bi_d31) rfl (l' := #[.val (.ref a1), .val (.long q), .second, .val (.int ((q.toUInt64 >>> ((32 : Int32) &&& 0x3f).toInt64.toUInt64).toInt64).toInt32)]) rfl k) ?_
  show OwnGo p e below (T103.setTop (mkF m 32 #[.val (.ref a1), .val (.long q), .second, .val (.int ((q.toUInt64 >>> ((32 : Int32) &&& 0x3f).toInt64.toUInt64).toInt64).toInt32)] [])) _
  refine own_back (fun t k => XS.iloadN X103.here hx rfl (hb hby bi_d32) rfl k) ?_
  show OwnGo p e below (T103.setTop (mkF m 33 #[.val (.ref a1), .val (.long q), .second, .val (.int ((q.toUInt64 >>> ((32 : Int32) &&& 0x3f).toInt64.toUInt64).toInt64).toInt32)] [(.int ((q.toUInt64 >>> ((32 : Int32) &&& 0x3f).toInt64.toUInt64).toInt64).toInt32)])) _
  by_cases hc33_111 : ((q.toUInt64 >>> ((32 : Int32) &&& 0x3f).toInt64.toUInt64).toInt64).toInt32 = (0 : Int32)
  · refine own_back (fun t k => XS.ifNo X103.here hx rfl (hb hby bi_d33) rfl (Jvm.Free.XT.i0_ne_f hc33_111) k) ?_
    show OwnGo p e below (T103.setTop (mkF m 36 #[.val (.ref a1), .val (.long q), .second, .val (.int ((q.toUInt64 >>> ((32 : Int32) &&& 0x3f).toInt64.toUInt64).toInt64).toInt32)] [])) _
    refine own_back (fun t k => XS.aloadN X103.here hx rfl (hb hby bi_d36) rfl rfl k) ?_
    show OwnGo p e below (T103.setTop (mkF m 37 #[.val (.ref a1), .val (.long q), .second, .val (.int ((q.toUInt64 >>> ((32 : Int32) &&& 0x3f).toInt64.toUInt64).toInt64).toInt32)] [(.ref a1)])) _
    refine own_back (fun t k => XS.iconst X103.here hx rfl (hb hby bi_d37) k) ?_
    show OwnGo p e below (T103.setTop (mkF m 38 #[.val (.ref a1), .val (.long q), .second, .val (.int ((q.toUInt64 >>> ((32 : Int32) &&& 0x3f).toInt64.toUInt64).toInt64).toInt32)] [(.int (1 : Int32)), (.ref a1)])) _
    obtain ⟨T112, h112, k112, X112, e112, E112, A112, st112⟩ := newP X103 hx hZ (hw _ (List.mem_of_getElem? (i := 68) rfl)) e103 (g := (mkF m 38 #[.val (.ref a1), .val (.long q), .second, .val (.int ((q.toUInt64 >>> ((32 : Int32) &&& 0x3f).toInt64.toUInt64).toInt64).toInt32)] [(.int (1 : Int32)), (.ref a1)])) rfl (hb hby bi_d38) rfl (by decide) (cap := 1) (by decide) (by decide) (Nat.le_of_ble_eq_true rfl) (Nat.le_of_ble_eq_true rfl)
    obtain ⟨b112, g112⟩ : ∃ z, z = h103.size := ⟨_, rfl⟩
    have ge113 : n0 ≤ b112 := Nat.le_trans Zs106 (Nat.le_of_eq g112.symm)
    have sz114 : h0.size ≤ b112 := Nat.le_trans KP105.1 (Nat.le_of_eq g112.symm)
    rw [← g112] at A112 st112
    have O115 := O104.ext E112
    have KP116 := KP105.ext E112
    have Zs117 := Nat.le_trans Zs106 E112.1
    have f118 := f107.ext E112
    have f119 := f108.ext E112
    have f120 := F109.ext E112
    have V121 : Arv Z h112 b112 k112 .int (1 : Int32) [(.int (0 : Int32))] (.int (0 : Int32)) := (Arv.new A112 (by decide)).pad (pad_rep [] (.int (0 : Int32)) 1)
    refine own_back st112 ?_
    show OwnGo p e below (T112.setTop (mkF m 40 #[.val (.ref a1), .val (.long q), .second, .val (.int ((q.toUInt64 >>> ((32 : Int32) &&& 0x3f).toInt64.toUInt64).toInt64).toInt32)] [(.ref b112), (.ref a1)])) _
    obtain ⟨T122, h122, X122, e122, W122, st122⟩ := putF X112 hx hZ hown (host := "") (Or.inl (hw _ (List.mem_of_getElem? (i := 50) rfl))) Via.refl e112 f119 f118 (Or.inr ⟨(hw _ (List.mem_of_getElem? (i := 51) rfl)), rfl, hnm⟩) (hw _ (List.mem_of_getElem? (i := 56) rfl)) (ty := (.array .int)) (by decide) rfl rfl (g := (mkF m 40 #[.val (.ref a1), .val (.long q), .second, .val (.int ((q.toUInt64 >>> ((32 : Int32) &&& 0x3f).toInt64.toUInt64).toInt64).toInt32)] [(.ref b112), (.ref a1)])) rfl rfl (hb hby bi_d40)
    have O123 := O115.wr W122 g1
    have KP124 := KP116.wr W122 (Or.inl (List.mem_of_getElem? (i := 0) rfl))
    have Zs125 := Nat.le_trans Zs117 (Keep.of_wr W122).1
    have f126 := f118.wr W122
    have f127 := f120.other W122 (Or.inr (slot_ne (Or.inr (hw _ (List.mem_of_getElem? (i := 44) rfl))) (Or.inr (hw _ (List.mem_of_getElem? (i := 51) rfl))) (by decide) (t := .int) (t' := (.array .int)) (by decide) (by decide)))
    have f128 := V121.other W122 (Ne.symm (Nat.ne_of_lt (Nat.lt_of_lt_of_le f107.lt (Nat.le_of_eq g112.symm))))
    have F129 := f119.same W122
    have N130 := Fr.snoc X122 N110 g1
    refine own_back st122 ?_
    show OwnGo p e below (T122.setTop (mkF m 43 #[.val (.ref a1), .val (.long q), .second, .val (.int ((q.toUInt64 >>> ((32 : Int32) &&& 0x3f).toInt64.toUInt64).toInt64).toInt32)] [])) _
    refine own_back (fun t k => XS.aloadN X122.here hx rfl (hb hby bi_d43) rfl rfl k) ?_
    show OwnGo p e below (T122.setTop (mkF m 44 #[.val (.ref a1), .val (.long q), .second, .val (.int ((q.toUInt64 >>> ((32 : Int32) &&& 0x3f).toInt64.toUInt64).toInt64).toInt32)] [(.ref a1)])) _
    obtain ⟨T131, X131, e131, st131⟩ := getF X122 hx hZ hown (host := "") (Or.inl (hw _ (List.mem_of_getElem? (i := 50) rfl))) Via.refl e122 F129 (g := (mkF m 44 #[.val (.ref a1), .val (.long q), .second, .val (.int ((q.toUInt64 >>> ((32 : Int32) &&& 0x3f).toInt64.toUInt64).toInt64).toInt32)] [(.ref a1)])) rfl rfl (hb hby bi_d44)
    refine own_back st131 ?_
    show OwnGo p e below (T131.setTop (mkF m 47 #[.val (.ref a1), .val (.long q), .second, .val (.int ((q.toUInt64 >>> ((32 : Int32) &&& 0x3f).toInt64.toUInt64).toInt64).toInt32)] [(.ref b112)])) _
    refine own_back (fun t k => XS.iconst X131.here hx rfl (hb hby bi_d47) k) ?_
    show OwnGo p e below (T131.setTop (mkF m 48 #[.val (.ref a1), .val (.long q), .second, .val (.int ((q.toUInt64 >>> ((32 : Int32) &&& 0x3f).toInt64.toUInt64).toInt64).toInt32)] [(.int (0 : Int32)), (.ref b112)])) _
    refine own_back (fun t k => XS.lloadN X131.here hx rfl (hb hby bi_d48) rfl k) ?_
    show OwnGo p e below (T131.setTop (mkF m 49 #[.val (.ref a1), .val (.long q), .second, .val (.int ((q.toUInt64 >>> ((32 : Int32) &&& 0x3f).toInt64.toUInt64).toInt64).toInt32)] [(.long q), (.int (0 : Int32)), (.ref b112)])) _
    refine own_back (fun t k => XS.l2i X131.here hx rfl (hb hby bi_d49) rfl k) ?_
    show OwnGo p e below (T131.setTop (mkF m 50 #[.val (.ref a1), .val (.long q), .second, .val (.int ((q.toUInt64 >>> ((32 : Int32) &&& 0x3f).toInt64.toUInt64).toInt64).toInt32)] [(.int q.toInt32), (.int (0 : Int32)), (.ref b112)])) _
    obtain ⟨c132, A132, q132, S132, M132, H132, U132⟩ := id f128
    obtain ⟨T133, h133, X133, e133, W133, st133⟩ := stI X131 hx hZ e131 A132 (j := (0 : Int32)) (inb_of S132 ⟨by decide, by decide⟩) (g := (mkF m 50 #[.val (.ref a1), .val (.long q), .second, .val (.int ((q.toUInt64 >>> ((32 : Int32) &&& 0x3f).toInt64.toUInt64).toInt64).toInt32)] [(.int q.toInt32), (.int (0 : Int32)), (.ref b112)])) rfl rfl (hb hby bi_d50)
    have O134 := O123.wr W133 ge113
    have KP135 := KP124.wr W133 (Or.inr sz114)
    have Zs136 := Nat.le_trans Zs125 (Keep.of_wr W133).1
    have f137 := f126.wr W133
    have f138 := f127.other W133 (Or.inl (Nat.ne_of_lt (Nat.lt_of_lt_of_le f107.lt (Nat.le_of_eq g112.symm))))
    have f139 := F129.other W133 (Or.inl (Nat.ne_of_lt (Nat.lt_of_lt_of_le f107.lt (Nat.le_of_eq g112.symm))))
    have V140 : Arv Z h133 b112 k112 .int (1 : Int32) [(.int q.toInt32)] (.int (0 : Int32)) := Arv.set A132 q132 S132 M132 H132 U132 rfl W133 0 rfl (Nat.le_of_ble_eq_true rfl)
    have N141 := Fr.snoc X133 N130 ge113
    refine own_back st133 ?_
    show OwnGo p e below (T133.setTop (mkF m 51 #[.val (.ref a1), .val (.long q), .second, .val (.int ((q.toUInt64 >>> ((32 : Int32) &&& 0x3f).toInt64.toUInt64).toInt64).toInt32)] [])) _
    refine own_back (fun t k => XS.goto X133.here hx rfl (pc0 := 51) (pc' := 76) rfl (hb hby bi_d51) (by decide) (by decide) k) ?_
    show OwnGo p e below (T133.setTop (mkF m 76 #[.val (.ref a1), .val (.long q), .second, .val (.int ((q.toUInt64 >>> ((32 : Int32) &&& 0x3f).toInt64.toUInt64).toInt64).toInt32)] [])) _
    refine own_retV X133 hx Bd.notSynchronized Bd.returns (hb hby bi_d76) e133 (Nat.le_of_ble_eq_true rfl) (Nat.le_of_ble_eq_true rfl) ?_
    exact ⟨rfl, N141, KP135, b112, _, _, _, f137, by rw [if_neg (fun q => absurd hq (by rw [q]; decide))]; exact f138, f139, V140, Or.inr (Or.inl ⟨hq, hc33_111, rfl, rfl⟩)⟩
  · refine own_back (fun t k => XS.ifYes X103.here hx rfl (pc0 := 33) (pc' := 54) rfl (hb hby bi_d33) rfl (Jvm.Free.XT.i0_ne_t hc33_111) (by decide) (by decide) k) ?_
    show OwnGo p e below (T103.setTop (mkF m 54 #[.val (.ref a1), .val (.long q), .second, .val (.int ((q.toUInt64 >>> ((32 : Int32) &&& 0x3f).toInt64.toUInt64).toInt64).toInt32)] [])) _
    refine own_back (fun t k => XS.aloadN X103.here hx rfl (hb hby bi_d54) rfl rfl k) ?_
    show OwnGo p e below (T103.setTop (mkF m 55 #[.val (.ref a1), .val (.long q), .second, .val (.int ((q.toUInt64 >>> ((32 : Int32) &&& 0x3f).toInt64.toUInt64).toInt64).toInt32)] [(.ref a1)])) _
    refine own_back (fun t k => XS.iconst X103.here hx rfl (hb hby bi_d55) k) ?_
    show OwnGo p e below (T103.setTop (mkF m 56 #[.val (.ref a1), .val (.long q), .second, .val (.int ((q.toUInt64 >>> ((32 : Int32) &&& 0x3f).toInt64.toUInt64).toInt64).toInt32)] [(.int (2 : Int32)), (.ref a1)])) _
    obtain ⟨T142, h142, k142, X142, e142, E142, A142, st142⟩ := newP X103 hx hZ (hw _ (List.mem_of_getElem? (i := 68) rfl)) e103 (g := (mkF m 56 #[.val (.ref a1), .val (.long q), .second, .val (.int ((q.toUInt64 >>> ((32 : Int32) &&& 0x3f).toInt64.toUInt64).toInt64).toInt32)] [(.int (2 : Int32)), (.ref a1)])) rfl (hb hby bi_d56) rfl (by decide) (cap := 2) (by decide) (by decide) (Nat.le_of_ble_eq_true rfl) (Nat.le_of_ble_eq_true rfl)
    obtain ⟨b142, g142⟩ : ∃ z, z = h103.size := ⟨_, rfl⟩
    have ge143 : n0 ≤ b142 := Nat.le_trans Zs106 (Nat.le_of_eq g142.symm)
    have sz144 : h0.size ≤ b142 := Nat.le_trans KP105.1 (Nat.le_of_eq g142.symm)
    rw [← g142] at A142 st142
    have O145 := O104.ext E142
    have KP146 := KP105.ext E142
    have Zs147 := Nat.le_trans Zs106 E142.1
    have f148 := f107.ext E142
    have f149 := f108.ext E142
    have f150 := F109.ext E142
    have V151 : Arv Z h142 b142 k142 .int (2 : Int32) [(.int (0 : Int32)), (.int (0 : Int32))] (.int (0 : Int32)) := (Arv.new A142 (by decide)).pad (pad_rep [] (.int (0 : Int32)) 2)
    refine own_back st142 ?_
    show OwnGo p e below (T142.setTop (mkF m 58 #[.val (.ref a1), .val (.long q), .second, .val (.int ((q.toUInt64 >>> ((32 : Int32) &&& 0x3f).toInt64.toUInt64).toInt64).toInt32)] [(.ref b142), (.ref a1)])) _
    obtain ⟨T152, h152, X152, e152, W152, st152⟩ := putF X142 hx hZ hown (host := "") (Or.inl (hw _ (List.mem_of_getElem? (i := 50) rfl))) Via.refl e142 f149 f148 (Or.inr ⟨(hw _ (List.mem_of_getElem? (i := 51) rfl)), rfl, hnm⟩) (hw _ (List.mem_of_getElem? (i := 56) rfl)) (ty := (.array .int)) (by decide) rfl rfl (g := (mkF m 58 #[.val (.ref a1), .val (.long q), .second, .val (.int ((q.toUInt64 >>> ((32 : Int32) &&& 0x3f).toInt64.toUInt64).toInt64).toInt32)] [(.ref b142), (.ref a1)])) rfl rfl (hb hby bi_d58)
    have O153 := O145.wr W152 g1
    have KP154 := KP146.wr W152 (Or.inl (List.mem_of_getElem? (i := 0) rfl))
    have Zs155 := Nat.le_trans Zs147 (Keep.of_wr W152).1
    have f156 := f148.wr W152
    have f157 := f150.other W152 (Or.inr (slot_ne (Or.inr (hw _ (List.mem_of_getElem? (i := 44) rfl))) (Or.inr (hw _ (List.mem_of_getElem? (i := 51) rfl))) (by decide) (t := .int) (t' := (.array .int)) (by decide) (by decide)))
    have f158 := V151.other W152 (Ne.symm (Nat.ne_of_lt (Nat.lt_of_lt_of_le f107.lt (Nat.le_of_eq g142.symm))))
    have F159 := f149.same W152
    have N160 := Fr.snoc X152 N110 g1
    refine own_back st152 ?_
    show OwnGo p e below (T152.setTop (mkF m 61 #[.val (.ref a1), .val (.long q), .second, .val (.int ((q.toUInt64 >>> ((32 : Int32) &&& 0x3f).toInt64.toUInt64).toInt64).toInt32)] [])) _
    refine own_back (fun t k => XS.aloadN X152.here hx rfl (hb hby bi_d61) rfl rfl k) ?_
    show OwnGo p e below (T152.setTop (mkF m 62 #[.val (.ref a1), .val (.long q), .second, .val (.int ((q.toUInt64 >>> ((32 : Int32) &&& 0x3f).toInt64.toUInt64).toInt64).toInt32)] [(.ref a1)])) _
    obtain ⟨T161, X161, e161, st161⟩ := getF X152 hx hZ hown (host := "") (Or.inl (hw _ (List.mem_of_getElem? (i := 50) rfl))) Via.refl e152 F159 (g := (mkF m 62 #[.val (.ref a1), .val (.long q), .second, .val (.int ((q.toUInt64 >>> ((32 : Int32) &&& 0x3f).toInt64.toUInt64).toInt64).toInt32)] [(.ref a1)])) rfl rfl (hb hby bi_d62)
    refine own_back st161 ?_
    show OwnGo p e below (T161.setTop (mkF m 65 #[.val (.ref a1), .val (.long q), .second, .val (.int ((q.toUInt64 >>> ((32 : Int32) &&& 0x3f).toInt64.toUInt64).toInt64).toInt32)] [(.ref b142)])) _
    refine own_back (fun t k => XS.iconst X161.here hx rfl (hb hby bi_d65) k) ?_
    show OwnGo p e below (T161.setTop (mkF m 66 #[.val (.ref a1), .val (.long q), .second, .val (.int ((q.toUInt64 >>> ((32 : Int32) &&& 0x3f).toInt64.toUInt64).toInt64).toInt32)] [(.int (0 : Int32)), (.ref b142)])) _
    refine own_back (fun t k => XS.iloadN X161.here hx rfl (hb hby bi_d66) rfl k) ?_
    show OwnGo p e below (T161.setTop (mkF m 67 #[.val (.ref a1), .val (.long q), .second, .val (.int ((q.toUInt64 >>> ((32 : Int32) &&& 0x3f).toInt64.toUInt64).toInt64).toInt32)] [(.int ((q.toUInt64 >>> ((32 : Int32) &&& 0x3f).toInt64.toUInt64).toInt64).toInt32), (.int (0 : Int32)), (.ref b142)])) _
    obtain ⟨c162, A162, q162, S162, M162, H162, U162⟩ := id f158
    obtain ⟨T163, h163, X163, e163, W163, st163⟩ := stI X161 hx hZ e161 A162 (j := (0 : Int32)) (inb_of S162 ⟨by decide, by decide⟩) (g := (mkF m 67 #[.val (.ref a1), .val (.long q), .second, .val (.int ((q.toUInt64 >>> ((32 : Int32) &&& 0x3f).toInt64.toUInt64).toInt64).toInt32)] [(.int ((q.toUInt64 >>> ((32 : Int32) &&& 0x3f).toInt64.toUInt64).toInt64).toInt32), (.int (0 : Int32)), (.ref b142)])) rfl rfl (hb hby bi_d67)
    have O164 := O153.wr W163 ge143
    have KP165 := KP154.wr W163 (Or.inr sz144)
    have Zs166 := Nat.le_trans Zs155 (Keep.of_wr W163).1
    have f167 := f156.wr W163
    have f168 := f157.other W163 (Or.inl (Nat.ne_of_lt (Nat.lt_of_lt_of_le f107.lt (Nat.le_of_eq g142.symm))))
    have f169 := F159.other W163 (Or.inl (Nat.ne_of_lt (Nat.lt_of_lt_of_le f107.lt (Nat.le_of_eq g142.symm))))
    have V170 : Arv Z h163 b142 k142 .int (2 : Int32) [(.int ((q.toUInt64 >>> ((32 : Int32) &&& 0x3f).toInt64.toUInt64).toInt64).toInt32), (.int (0 : Int32))] (.int (0 : Int32)) := Arv.set A162 q162 S162 M162 H162 U162 rfl W163 0 rfl (Nat.le_of_ble_eq_true rfl)
    have N171 := Fr.snoc X163 N160 ge143
    refine own_back st163 ?_
    show OwnGo p e below (T163.setTop (mkF m 68 #[.val (.ref a1), .val (.long q), .second, .val (.int ((q.toUInt64 >>> ((32 : Int32) &&& 0x3f).toInt64.toUInt64).toInt64).toInt32)] [])) _
    refine own_back (fun t k => XS.aloadN X163.here hx rfl (hb hby bi_d68) rfl rfl k) ?_
    show OwnGo p e below (T163.setTop (mkF m 69 #[.val (.ref a1), .val (.long q), .second, .val (.int ((q.toUInt64 >>> ((32 : Int32) &&& 0x3f).toInt64.toUInt64).toInt64).toInt32)] [(.ref a1)])) _
    obtain ⟨T172, X172, e172, st172⟩ := getF X163 hx hZ hown (host := "") (Or.inl (hw _ (List.mem_of_getElem? (i := 50) rfl))) Via.refl e163 f169 (g := (mkF m 69 #[.val (.ref a1), .val (.long q), .second, .val (.int ((q.toUInt64 >>> ((32 : Int32) &&& 0x3f).toInt64.toUInt64).toInt64).toInt32)] [(.ref a1)])) rfl rfl (hb hby bi_d69)
    refine own_back st172 ?_
    show OwnGo p e below (T172.setTop (mkF m 72 #[.val (.ref a1), .val (.long q), .second, .val (.int ((q.toUInt64 >>> ((32 : Int32) &&& 0x3f).toInt64.toUInt64).toInt64).toInt32)] [(.ref b142)])) _
    refine own_back (fun t k => XS.iconst X172.here hx rfl (hb hby bi_d72) k) ?_
    show OwnGo p e below (T172.setTop (mkF m 73 #[.val (.ref a1), .val (.long q), .second, .val (.int ((q.toUInt64 >>> ((32 : Int32) &&& 0x3f).toInt64.toUInt64).toInt64).toInt32)] [(.int (1 : Int32)), (.ref b142)])) _
    refine own_back (fun t k => XS.lloadN X172.here hx rfl (hb hby bi_d73) rfl k) ?_
    show OwnGo p e below (T172.setTop (mkF m 74 #[.val (.ref a1), .val (.long q), .second, .val (.int ((q.toUInt64 >>> ((32 : Int32) &&& 0x3f).toInt64.toUInt64).toInt64).toInt32)] [(.long q), (.int (1 : Int32)), (.ref b142)])) _
    refine own_back (fun t k => XS.l2i X172.here hx rfl (hb hby bi_d74) rfl k) ?_
    show OwnGo p e below (T172.setTop (mkF m 75 #[.val (.ref a1), .val (.long q), .second, .val (.int ((q.toUInt64 >>> ((32 : Int32) &&& 0x3f).toInt64.toUInt64).toInt64).toInt32)] [(.int q.toInt32), (.int (1 : Int32)), (.ref b142)])) _
    obtain ⟨c173, A173, q173, S173, M173, H173, U173⟩ := id V170
    obtain ⟨T174, h174, X174, e174, W174, st174⟩ := stI X172 hx hZ e172 A173 (j := (1 : Int32)) (inb_of S173 ⟨by decide, by decide⟩) (g := (mkF m 75 #[.val (.ref a1), .val (.long q), .second, .val (.int ((q.toUInt64 >>> ((32 : Int32) &&& 0x3f).toInt64.toUInt64).toInt64).toInt32)] [(.int q.toInt32), (.int (1 : Int32)), (.ref b142)])) rfl rfl (hb hby bi_d75)
    have O175 := O164.wr W174 ge143
    have KP176 := KP165.wr W174 (Or.inr sz144)
    have Zs177 := Nat.le_trans Zs166 (Keep.of_wr W174).1
    have f178 := f167.wr W174
    have f179 := f168.other W174 (Or.inl (Nat.ne_of_lt (Nat.lt_of_lt_of_le f107.lt (Nat.le_of_eq g142.symm))))
    have f180 := f169.other W174 (Or.inl (Nat.ne_of_lt (Nat.lt_of_lt_of_le f107.lt (Nat.le_of_eq g142.symm))))
    have V181 : Arv Z h174 b142 k142 .int (2 : Int32) [(.int ((q.toUInt64 >>> ((32 : Int32) &&& 0x3f).toInt64.toUInt64).toInt64).toInt32), (.int q.toInt32)] (.int (0 : Int32)) := Arv.set A173 q173 S173 M173 H173 U173 rfl W174 1 rfl (Nat.le_of_ble_eq_true rfl)
    have N182 := Fr.snoc X174 N171 ge143
    refine own_back st174 ?_
    show OwnGo p e below (T174.setTop (mkF m 76 #[.val (.ref a1), .val (.long q), .second, .val (.int ((q.toUInt64 >>> ((32 : Int32) &&& 0x3f).toInt64.toUInt64).toInt64).toInt32)] [])) _
    refine own_retV X174 hx Bd.notSynchronized Bd.returns (hb hby bi_d76) e174 (Nat.le_of_ble_eq_true rfl) (Nat.le_of_ble_eq_true rfl) ?_
    exact ⟨rfl, N182, KP176, b142, _, _, _, f178, by rw [if_neg (fun q => absurd hq (by rw [q]; decide))]; exact f179, f180, V181, Or.inr (Or.inr ⟨hq, hc33_111, rfl, rfl⟩)⟩
theorem own_ib {q : Int64} {c : Cell} (n : c.slots.size = 17) (h1 : 0 < q) (h2 : ¬ (16 : Int64) < q) : ¬ (q.toInt32 < 0 ∨ c.slots.size ≤ q.toInt32.toNatClampNeg) := by
  rw [Int64.lt_iff_toInt_lt] at h1 h2
  have z : (0 : Int64).toInt = 0 := rfl
  have z16 : (16 : Int64).toInt = 16 := rfl
  have e := c_l2i q
  have e1 := q.toInt32.toInt_lt
  have e2 := q.toInt32.le_toInt
  have e3 : q.toInt32.toInt = q.toInt := by omega
  have e4 : ¬ q.toInt32 < 0 := by rw [Int32.lt_iff_toInt_lt]; have z : (0 : Int32).toInt = 0 := rfl; omega
  have e5 := nat_of e4
  rintro (h | h)
  · exact e4 h
  · omega
theorem own_gt0 {q : Int64} (h : ¬ q < 0) (h0 : ¬ q = 0) : 0 < q := by
  rw [Int64.lt_iff_toInt_lt] at *
  have z : (0 : Int64).toInt = 0 := rfl
  have : q.toInt ≠ 0 := fun e => h0 (Int64.toInt_inj.mp e)
  omega
theorem vo_d0 : decode jdk_2097_method_29_code 0 = .ok (.lload_n 0, 1) := by decide +kernel
theorem vo_d1 : decode jdk_2097_method_29_code 1 = .ok (.lconst 0, 1) := by decide +kernel
theorem vo_d2 : decode jdk_2097_method_29_code 2 = .ok (.lcmp, 1) := by decide +kernel
theorem vo_d3 : decode jdk_2097_method_29_code 3 = .ok (.ifCond .ne 7, 3) := by decide +kernel
theorem vo_d6 : decode jdk_2097_method_29_code 6 = .ok (.getstatic 22, 3) := by decide +kernel
theorem vo_d9 : decode jdk_2097_method_29_code 9 = .ok (.areturn, 1) := by decide +kernel
theorem vo_d10 : decode jdk_2097_method_29_code 10 = .ok (.lload_n 0, 1) := by decide +kernel
theorem vo_d11 : decode jdk_2097_method_29_code 11 = .ok (.lconst 0, 1) := by decide +kernel
theorem vo_d12 : decode jdk_2097_method_29_code 12 = .ok (.lcmp, 1) := by decide +kernel
theorem vo_d13 : decode jdk_2097_method_29_code 13 = .ok (.ifCond .le 18, 3) := by decide +kernel
theorem vo_d16 : decode jdk_2097_method_29_code 16 = .ok (.lload_n 0, 1) := by decide +kernel
theorem vo_d17 : decode jdk_2097_method_29_code 17 = .ok (.ldc2_w 345, 3) := by decide +kernel
theorem vo_d20 : decode jdk_2097_method_29_code 20 = .ok (.lcmp, 1) := by decide +kernel
theorem vo_d21 : decode jdk_2097_method_29_code 21 = .ok (.ifCond .gt 10, 3) := by decide +kernel
theorem vo_d24 : decode jdk_2097_method_29_code 24 = .ok (.getstatic 347, 3) := by decide +kernel
theorem vo_d27 : decode jdk_2097_method_29_code 27 = .ok (.lload_n 0, 1) := by decide +kernel
theorem vo_d28 : decode jdk_2097_method_29_code 28 = .ok (.l2i, 1) := by decide +kernel
theorem vo_d29 : decode jdk_2097_method_29_code 29 = .ok (.aaload, 1) := by decide +kernel
theorem vo_d30 : decode jdk_2097_method_29_code 30 = .ok (.areturn, 1) := by decide +kernel
theorem vo_d31 : decode jdk_2097_method_29_code 31 = .ok (.lload_n 0, 1) := by decide +kernel
theorem vo_d32 : decode jdk_2097_method_29_code 32 = .ok (.lconst 0, 1) := by decide +kernel
theorem vo_d33 : decode jdk_2097_method_29_code 33 = .ok (.lcmp, 1) := by decide +kernel
theorem vo_d34 : decode jdk_2097_method_29_code 34 = .ok (.ifCond .ge 19, 3) := by decide +kernel
theorem vo_d53 : decode jdk_2097_method_29_code 53 = .ok (.new 23, 3) := by decide +kernel
theorem vo_d56 : decode jdk_2097_method_29_code 56 = .ok (.dup, 1) := by decide +kernel
theorem vo_d57 : decode jdk_2097_method_29_code 57 = .ok (.lload_n 0, 1) := by decide +kernel
theorem vo_d58 : decode jdk_2097_method_29_code 58 = .ok (.invokespecial 356, 3) := by decide +kernel
theorem vo_d61 : decode jdk_2097_method_29_code 61 = .ok (.areturn, 1) := by decide +kernel
theorem vo_pn : plainName "java/math/BigInteger" = true := by first | (simp [plainName, overriddenIn]; done) | decide +kernel
theorem vo_pd0 : parseMethodDescriptor "(J)V" = some ⟨[.long], none⟩ := by decide +kernel
theorem vo_ef (m : MethodId) (x0 : Int64) : entryFrame m #[(.long x0)] 2 = mkF m 0 #[.val (.long x0), .second] [] := by first | (simp [entryFrame, mkF, argsToLocals, Value.category]; done) | rfl
set_option maxRecDepth 65536 in
set_option maxHeartbeats 40000000 in
theorem rm_vo (l : Launch) (Z : State) (a0 : Array Value) (hw : ∀ d ∈ tables_1, d.before a0 Z = true) (ws : List Jvm.Cond) (q : Int64) (wz : Addr) (wp : Addr) (cp : Cell) (h0 : Heap) (n0 : Nat) (Z0 : n0 ≤ h0.size) (OL : Old Z n0 h0) (SZ : Sta Z Z.heap "java/math/BigInteger" "ZERO" "Ljava/math/BigInteger;" (.ref wz)) (SP : Sta Z Z.heap "java/math/BigInteger" "posConst" "[Ljava/math/BigInteger;" (.ref wp)) (BZ : OwnBig Z Z.heap wz 0) (AP : Arr Z Z.heap wp cp (.object "java/math/BigInteger")) (nP : cp.slots.size = 17) (HP : ∀ r : Int64, 0 < r → ¬ 16 < r → ∃ a, cp.slots[r.toInt32.toNatClampNeg]? = some (.ref a) ∧ OwnBig Z Z.heap a r) (hq : ¬ q < 0) :
    MetFree l (⟨"java/math/BigInteger", "valueOf", "(J)Ljava/math/BigInteger;"⟩ : MethodName) (head1 (Jvm.Cond.code (⟨"java/math/BigInteger", "valueOf", "(J)Ljava/math/BigInteger;"⟩ : MethodName) jdk_2097_method_29_code 2 (some (.object "java/math/BigInteger")) :: ws) ({ frames := 3, cells := 2, slots := 8, locals := 60 } : Room)) (fun a U => a = #[(.long q)] ∧ Z.Warmed39 U.vm ∧ U.heap = h0) (fun _ _ _ _ _ => True) (fun _ U o U' => OwnEnd U (fun v h L => ∃ a, v = some (.ref a) ∧ Fr n0 L ∧ Ext h0 h ∧ OwnBig Z h a q) ({ frames := 3, cells := 2, slots := 8, locals := 60 } : Room).cells ({ frames := 3, cells := 2, slots := 8, locals := 60 } : Room).slots o U') := by
  refine MetFree.of_bodySF (plainFor_of_name vo_pn) hisR ?_
  intro p e s m args below meth c s₁ Bd hml0 hP hK
  obtain ⟨rfl, hZ, hh⟩ := hP
  have hx := Bd.exec
  have hby := Bd.bytes
  have hml : c.maxLocals = 2 := hml0
  have hown : s.vm.findClass "java/math/BigInteger" = some m.cls := findClass_of_methodNamed Bd.named
  have hnm := (name_of_methodNamed Bd.named Bd.method).1
  have X0 : Stand p l e ({ frames := 3, cells := 2, slots := 8, locals := 60 } : Room) s m #[(.long q)] below meth c s₁ [] 0 0 := Stand.of_body Bd
  have e0 : s₁.heap = h0 := by rw [← hh, Bd.state]; rfl
  have N0 := Fr.nil n0
  have KP0 := Keep.refl h0 []
  refine own_go (Q := (OwnEnd s (fun v h L => ∃ a, v = some (.ref a) ∧ Fr n0 L ∧ Ext h0 h ∧ OwnBig Z h a q) ({ frames := 3, cells := 2, slots := 8, locals := 60 } : Room).cells ({ frames := 3, cells := 2, slots := 8, locals := 60 } : Room).slots)) ?_
  refine own_back (fun t k => castTop (vo_ef m q) k) ?_
  show OwnGo p e below (s₁.setTop (mkF m 0 #[.val (.long q), .second] [])) _
  refine own_back (fun t k => XS.lloadN X0.here hx rfl (hb hby vo_d0) rfl k) ?_
  show OwnGo p e below (s₁.setTop (mkF m 1 #[.val (.long q), .second] [(.long q)])) _
  refine own_back (fun t k => XS.lconst X0.here hx rfl (hb hby vo_d1) k) ?_
  show OwnGo p e below (s₁.setTop (mkF m 2 #[.val (.long q), .second] [(.long (0 : Int64)), (.long q)])) _
  refine own_back (fun t k => XT.lcmp X0.here hx rfl (hb hby vo_d2) rfl k) ?_
  show OwnGo p e below (s₁.setTop (mkF m 3 #[.val (.long q), .second] [(.int (XT.cmpL q (0 : Int64)))])) _
  by_cases hc3_183 : q = (0 : Int64)
  · refine own_back (fun t k => XS.ifNo X0.here hx rfl (hb hby vo_d3) rfl (Jvm.Free.XT.ll_ne_f hc3_183) k) ?_
    show OwnGo p e below (s₁.setTop (mkF m 6 #[.val (.long q), .second] [])) _
    obtain ⟨T184, X184, e184, st184⟩ := getS2 X0 hx hZ hown (host := "") (Or.inl (hw _ (List.mem_of_getElem? (i := 53) rfl))) Via.refl e0 (SZ.ext OL.2) (g := (mkF m 6 #[.val (.long q), .second] [])) rfl (hb hby vo_d6)
    refine own_back st184 ?_
    show OwnGo p e below (T184.setTop (mkF m 9 #[.val (.long q), .second] [(.ref wz)])) _
    refine own_retA X184 hx Bd.notSynchronized Bd.returns rfl rfl (hb hby vo_d9) e184 (Nat.le_of_ble_eq_true rfl) (Nat.le_of_ble_eq_true rfl) ?_
    exact ⟨_, rfl, N0, own_ext KP0, by rw [hc3_183]; exact BZ.ext OL.2⟩
  · refine own_back (fun t k => XS.ifYes X0.here hx rfl (pc0 := 3) (pc' := 10) rfl (hb hby vo_d3) rfl (Jvm.Free.XT.ll_ne_t hc3_183) (by decide) (by decide) k) ?_
    show OwnGo p e below (s₁.setTop (mkF m 10 #[.val (.long q), .second] [])) _
    refine own_back (fun t k => XS.lloadN X0.here hx rfl (hb hby vo_d10) rfl k) ?_
    show OwnGo p e below (s₁.setTop (mkF m 11 #[.val (.long q), .second] [(.long q)])) _
    refine own_back (fun t k => XS.lconst X0.here hx rfl (hb hby vo_d11) k) ?_
    show OwnGo p e below (s₁.setTop (mkF m 12 #[.val (.long q), .second] [(.long (0 : Int64)), (.long q)])) _
    refine own_back (fun t k => XT.lcmp X0.here hx rfl (hb hby vo_d12) rfl k) ?_
    show OwnGo p e below (s₁.setTop (mkF m 13 #[.val (.long q), .second] [(.int (XT.cmpL q (0 : Int64)))])) _
    by_cases hc13_185 : (0 : Int64) < q
    · refine own_back (fun t k => XS.ifNo X0.here hx rfl (hb hby vo_d13) rfl (Jvm.Free.XT.ll_le_f hc13_185) k) ?_
      show OwnGo p e below (s₁.setTop (mkF m 16 #[.val (.long q), .second] [])) _
      refine own_back (fun t k => XS.lloadN X0.here hx rfl (hb hby vo_d16) rfl k) ?_
      show OwnGo p e below (s₁.setTop (mkF m 17 #[.val (.long q), .second] [(.long q)])) _
      refine own_back (fun t k => X0.ldc2Long hx hown (mvT hZ (hw _ (List.mem_of_getElem? (i := 30) rfl))) (g := (mkF m 17 #[.val (.long q), .second] [(.long q)])) rfl (hb hby vo_d17) t k) ?_
      show OwnGo p e below (s₁.setTop (mkF m 20 #[.val (.long q), .second] [(.long (16 : Int64)), (.long q)])) _
      refine own_back (fun t k => XT.lcmp X0.here hx rfl (hb hby vo_d20) rfl k) ?_
      show OwnGo p e below (s₁.setTop (mkF m 21 #[.val (.long q), .second] [(.int (XT.cmpL q (16 : Int64)))])) _
      by_cases hc21_186 : (16 : Int64) < q
      · refine own_back (fun t k => XS.ifYes X0.here hx rfl (pc0 := 21) (pc' := 31) rfl (hb hby vo_d21) rfl (Jvm.Free.XT.ll_gt_t hc21_186) (by decide) (by decide) k) ?_
        show OwnGo p e below (s₁.setTop (mkF m 31 #[.val (.long q), .second] [])) _
        refine own_back (fun t k => XS.lloadN X0.here hx rfl (hb hby vo_d31) rfl k) ?_
        show OwnGo p e below (s₁.setTop (mkF m 32 #[.val (.long q), .second] [(.long q)])) _
        refine own_back (fun t k => XS.lconst X0.here hx rfl (hb hby vo_d32) k) ?_
        show OwnGo p e below (s₁.setTop (mkF m 33 #[.val (.long q), .second] [(.long (0 : Int64)), (.long q)])) _
        refine own_back (fun t k => XT.lcmp X0.here hx rfl (hb hby vo_d33) rfl k) ?_
        show OwnGo p e below (s₁.setTop (mkF m 34 #[.val (.long q), .second] [(.int (XT.cmpL q (0 : Int64)))])) _
        refine own_back (fun t k => XS.ifYes X0.here hx rfl (pc0 := 34) (pc' := 53) rfl (hb hby vo_d34) rfl (Jvm.Free.XT.ll_ge_t hq) (by decide) (by decide) k) ?_
        show OwnGo p e below (s₁.setTop (mkF m 53 #[.val (.long q), .second] [])) _
        obtain ⟨T187, h187, X187, e187, E187, A187, D187, -, st187⟩ := newO X0 hx hZ hown (hw _ (List.mem_of_getElem? (i := 55) rfl)) (hw _ (List.mem_of_getElem? (i := 56) rfl)) (hw _ (List.mem_of_getElem? (i := 28) rfl)) e0 (g := (mkF m 53 #[.val (.long q), .second] [])) rfl (hb hby vo_d53) (Nat.le_of_ble_eq_true rfl) (Nat.le_of_ble_eq_true rfl)
        obtain ⟨b187, g187⟩ : ∃ z, z = h0.size := ⟨_, rfl⟩
        have ge188 : n0 ≤ b187 := Nat.le_trans Z0 (Nat.le_of_eq g187.symm)
        have sz189 : h0.size ≤ b187 := Nat.le_trans KP0.1 (Nat.le_of_eq g187.symm)
        rw [← g187] at A187 D187 st187
        have O190 := OL.ext E187
        have KP191 := KP0.ext E187
        have Zs192 := Nat.le_trans Z0 E187.1
        have F193 : Fld Z h187 b187 "java/math/BigInteger" "signum" "I" (.int (0 : Int32)) := D187 (Or.inr (hw _ (List.mem_of_getElem? (i := 44) rfl))) (ty := .int) (by decide)
        have F194 : Fld Z h187 b187 "java/math/BigInteger" "mag" "[I" .null := D187 (Or.inr (hw _ (List.mem_of_getElem? (i := 51) rfl))) (ty := (.array .int)) (by decide)
        refine own_back st187 ?_
        show OwnGo p e below (T187.setTop (mkF m 56 #[.val (.long q), .second] [(.ref b187)])) _
        refine own_back (fun t k => XS.dup X187.here hx rfl (hb hby vo_d56) rfl rfl k) ?_
        show OwnGo p e below (T187.setTop (mkF m 57 #[.val (.long q), .second] [(.ref b187), (.ref b187)])) _
        refine own_back (fun t k => XS.lloadN X187.here hx rfl (hb hby vo_d57) rfl k) ?_
        show OwnGo p e below (T187.setTop (mkF m 58 #[.val (.long q), .second] [(.long q), (.ref b187), (.ref b187)])) _
        obtain ⟨_, _, ⟨T195, L195, k195, n195⟩, -, X195, ⟨Lc195, hQ195, l195, y195, z195⟩, st195⟩ := X187.specialBack hx (y := (⟨"java/math/BigInteger", "<init>", "(J)V"⟩ : MethodName)) rfl hown (mvT hZ (hw _ (List.mem_of_getElem? (i := 57) rfl))) (mvT hZ (hw _ (List.mem_of_getElem? (i := 58) rfl))) (mvT hZ (hw _ (List.mem_of_getElem? (i := 60) rfl))) (by decide) (own_backN (W := 1) (rm_bi l Z a0 hw [] b187 q (.int 0) .null h187 n0 Zs192 O190 A187 F193 F194 ge188 (own_gt0 hq hc3_183)) hZ (hw _ (List.mem_of_getElem? (i := 60) rfl)) (hw _ (List.mem_of_getElem? (i := 28) rfl)) (by decide) (by decide)) (g := (mkF m 58 #[.val (.long q), .second] [(.long q), (.ref b187), (.ref b187)])) rfl (by rw [hml]; rfl) (Steps.refl _) (a := b187) (argsL := [(.long q)]) (rest := [(.ref b187)]) (lenOf vo_pd0 rfl) rfl (by show 2 * 0 + _ ≤ _; exact Nat.le_of_eq rfl) (hb hby vo_d58) (fun _ _ => ⟨rfl, e187, Nat.le_of_ble_eq_true rfl, Nat.le_of_ble_eq_true rfl⟩)
        dsimp only [Pt.U, Pt.locs, Pt.cells, Pt.slots] at X195 l195 y195 z195 st195 hQ195
        subst l195 y195 z195
        obtain ⟨rfl, N195q, K195, B195⟩ := hQ195
        refine own_seq st195 ?_
        have N195 := Fr.app N0 N195q
        have O196 := O190.keep K195 (allS ge188 all0)
        have KP197 := KP191.trans K195 (allS (Or.inr sz189) all0)
        have Zs198 := Nat.le_trans Zs192 K195.1
        have f199 := A187.keep K195
        show OwnGo p e below (T195.setTop (mkF m 61 #[.val (.long q), .second] [(.ref b187)])) _
        refine own_retA X195 hx Bd.notSynchronized Bd.returns rfl rfl (hb hby vo_d61) rfl (Nat.le_of_ble_eq_true rfl) (Nat.le_of_ble_eq_true rfl) ?_
        exact ⟨_, rfl, N195, own_ext KP197, B195⟩
      · refine own_back (fun t k => XS.ifNo X0.here hx rfl (hb hby vo_d21) rfl (Jvm.Free.XT.ll_gt_f hc21_186) k) ?_
        show OwnGo p e below (s₁.setTop (mkF m 24 #[.val (.long q), .second] [])) _
        obtain ⟨T200, X200, e200, st200⟩ := getS2 X0 hx hZ hown (host := "") (Or.inl (hw _ (List.mem_of_getElem? (i := 31) rfl))) Via.refl e0 (SP.ext OL.2) (g := (mkF m 24 #[.val (.long q), .second] [])) rfl (hb hby vo_d24)
        refine own_back st200 ?_
        show OwnGo p e below (T200.setTop (mkF m 27 #[.val (.long q), .second] [(.ref wp)])) _
        refine own_back (fun t k => XS.lloadN X200.here hx rfl (hb hby vo_d27) rfl k) ?_
        show OwnGo p e below (T200.setTop (mkF m 28 #[.val (.long q), .second] [(.long q), (.ref wp)])) _
        refine own_back (fun t k => XS.l2i X200.here hx rfl (hb hby vo_d28) rfl k) ?_
        show OwnGo p e below (T200.setTop (mkF m 29 #[.val (.long q), .second] [(.int q.toInt32), (.ref wp)])) _
        obtain ⟨aP, hat, BP⟩ := HP q hc13_185 hc21_186
        have hib : ¬ (q.toInt32 < 0 ∨ cp.slots.size ≤ q.toInt32.toNatClampNeg) := own_ib nP hc13_185 hc21_186
        refine own_back (fun t k => X200.aaload hx (j := q.toInt32) (v := .ref aP) (by rw [e200]; exact (AP.ext OL.2).1) (State.isArrayOf_alike hZ.alike AP.2.1) rfl AP.2.2 hib hat (g := (mkF m 29 #[.val (.long q), .second] [(.int q.toInt32), (.ref wp)])) rfl rfl (hb hby vo_d29) t k) ?_
        show OwnGo p e below (T200.setTop (mkF m 30 #[.val (.long q), .second] [(.ref aP)])) _
        refine own_retA X200 hx Bd.notSynchronized Bd.returns rfl rfl (hb hby vo_d30) e200 (Nat.le_of_ble_eq_true rfl) (Nat.le_of_ble_eq_true rfl) ?_
        exact ⟨_, rfl, N0, own_ext KP0, BP.ext OL.2⟩
    · refine own_back (fun t k => XS.ifYes X0.here hx rfl (pc0 := 13) (pc' := 31) rfl (hb hby vo_d13) rfl (Jvm.Free.XT.ll_le_t hc13_185) (by decide) (by decide) k) ?_
      show OwnGo p e below (s₁.setTop (mkF m 31 #[.val (.long q), .second] [])) _
      refine own_back (fun t k => XS.lloadN X0.here hx rfl (hb hby vo_d31) rfl k) ?_
      show OwnGo p e below (s₁.setTop (mkF m 32 #[.val (.long q), .second] [(.long q)])) _
      refine own_back (fun t k => XS.lconst X0.here hx rfl (hb hby vo_d32) k) ?_
      show OwnGo p e below (s₁.setTop (mkF m 33 #[.val (.long q), .second] [(.long (0 : Int64)), (.long q)])) _
      refine own_back (fun t k => XT.lcmp X0.here hx rfl (hb hby vo_d33) rfl k) ?_
      show OwnGo p e below (s₁.setTop (mkF m 34 #[.val (.long q), .second] [(.int (XT.cmpL q (0 : Int64)))])) _
      refine own_back (fun t k => XS.ifYes X0.here hx rfl (pc0 := 34) (pc' := 53) rfl (hb hby vo_d34) rfl (Jvm.Free.XT.ll_ge_t hq) (by decide) (by decide) k) ?_
      show OwnGo p e below (s₁.setTop (mkF m 53 #[.val (.long q), .second] [])) _
      obtain ⟨T201, h201, X201, e201, E201, A201, D201, -, st201⟩ := newO X0 hx hZ hown (hw _ (List.mem_of_getElem? (i := 55) rfl)) (hw _ (List.mem_of_getElem? (i := 56) rfl)) (hw _ (List.mem_of_getElem? (i := 28) rfl)) e0 (g := (mkF m 53 #[.val (.long q), .second] [])) rfl (hb hby vo_d53) (Nat.le_of_ble_eq_true rfl) (Nat.le_of_ble_eq_true rfl)
      obtain ⟨b201, g201⟩ : ∃ z, z = h0.size := ⟨_, rfl⟩
      have ge202 : n0 ≤ b201 := Nat.le_trans Z0 (Nat.le_of_eq g201.symm)
      have sz203 : h0.size ≤ b201 := Nat.le_trans KP0.1 (Nat.le_of_eq g201.symm)
      rw [← g201] at A201 D201 st201
      have O204 := OL.ext E201
      have KP205 := KP0.ext E201
      have Zs206 := Nat.le_trans Z0 E201.1
      have F207 : Fld Z h201 b201 "java/math/BigInteger" "signum" "I" (.int (0 : Int32)) := D201 (Or.inr (hw _ (List.mem_of_getElem? (i := 44) rfl))) (ty := .int) (by decide)
      have F208 : Fld Z h201 b201 "java/math/BigInteger" "mag" "[I" .null := D201 (Or.inr (hw _ (List.mem_of_getElem? (i := 51) rfl))) (ty := (.array .int)) (by decide)
      refine own_back st201 ?_
      show OwnGo p e below (T201.setTop (mkF m 56 #[.val (.long q), .second] [(.ref b201)])) _
      refine own_back (fun t k => XS.dup X201.here hx rfl (hb hby vo_d56) rfl rfl k) ?_
      show OwnGo p e below (T201.setTop (mkF m 57 #[.val (.long q), .second] [(.ref b201), (.ref b201)])) _
      refine own_back (fun t k => XS.lloadN X201.here hx rfl (hb hby vo_d57) rfl k) ?_
      show OwnGo p e below (T201.setTop (mkF m 58 #[.val (.long q), .second] [(.long q), (.ref b201), (.ref b201)])) _
      obtain ⟨_, _, ⟨T209, L209, k209, n209⟩, -, X209, ⟨Lc209, hQ209, l209, y209, z209⟩, st209⟩ := X201.specialBack hx (y := (⟨"java/math/BigInteger", "<init>", "(J)V"⟩ : MethodName)) rfl hown (mvT hZ (hw _ (List.mem_of_getElem? (i := 57) rfl))) (mvT hZ (hw _ (List.mem_of_getElem? (i := 58) rfl))) (mvT hZ (hw _ (List.mem_of_getElem? (i := 60) rfl))) (by decide) (own_backN (W := 1) (rm_bi l Z a0 hw [] b201 q (.int 0) .null h201 n0 Zs206 O204 A201 F207 F208 ge202 (own_gt0 hq hc3_183)) hZ (hw _ (List.mem_of_getElem? (i := 60) rfl)) (hw _ (List.mem_of_getElem? (i := 28) rfl)) (by decide) (by decide)) (g := (mkF m 58 #[.val (.long q), .second] [(.long q), (.ref b201), (.ref b201)])) rfl (by rw [hml]; rfl) (Steps.refl _) (a := b201) (argsL := [(.long q)]) (rest := [(.ref b201)]) (lenOf vo_pd0 rfl) rfl (by show 2 * 0 + _ ≤ _; exact Nat.le_of_eq rfl) (hb hby vo_d58) (fun _ _ => ⟨rfl, e201, Nat.le_of_ble_eq_true rfl, Nat.le_of_ble_eq_true rfl⟩)
      dsimp only [Pt.U, Pt.locs, Pt.cells, Pt.slots] at X209 l209 y209 z209 st209 hQ209
      subst l209 y209 z209
      obtain ⟨rfl, N209q, K209, B209⟩ := hQ209
      refine own_seq st209 ?_
      have N209 := Fr.app N0 N209q
      have O210 := O204.keep K209 (allS ge202 all0)
      have KP211 := KP205.trans K209 (allS (Or.inr sz203) all0)
      have Zs212 := Nat.le_trans Zs206 K209.1
      have f213 := A201.keep K209
      show OwnGo p e below (T209.setTop (mkF m 61 #[.val (.long q), .second] [(.ref b201)])) _
      refine own_retA X209 hx Bd.notSynchronized Bd.returns rfl rfl (hb hby vo_d61) rfl (Nat.le_of_ble_eq_true rfl) (Nat.le_of_ble_eq_true rfl) ?_
      exact ⟨_, rfl, N209, own_ext KP211, B209⟩
theorem cm_d0 : decode jdk_2097_method_122_code 0 = .ok (.aload_n 0, 1) := by decide +kernel
theorem cm_d1 : decode jdk_2097_method_122_code 1 = .ok (.getfield 28, 3) := by decide +kernel
theorem cm_d4 : decode jdk_2097_method_122_code 4 = .ok (.astore_n 2, 1) := by decide +kernel
theorem cm_d5 : decode jdk_2097_method_122_code 5 = .ok (.aload_n 2, 1) := by decide +kernel
theorem cm_d6 : decode jdk_2097_method_122_code 6 = .ok (.arraylength, 1) := by decide +kernel
theorem cm_d7 : decode jdk_2097_method_122_code 7 = .ok (.istore_n 3, 1) := by decide +kernel
theorem cm_d8 : decode jdk_2097_method_122_code 8 = .ok (.aload_n 1, 1) := by decide +kernel
theorem cm_d9 : decode jdk_2097_method_122_code 9 = .ok (.getfield 28, 3) := by decide +kernel
theorem cm_d12 : decode jdk_2097_method_122_code 12 = .ok (.astore 4, 2) := by decide +kernel
theorem cm_d14 : decode jdk_2097_method_122_code 14 = .ok (.aload 4, 2) := by decide +kernel
theorem cm_d16 : decode jdk_2097_method_122_code 16 = .ok (.arraylength, 1) := by decide +kernel
theorem cm_d17 : decode jdk_2097_method_122_code 17 = .ok (.istore 5, 2) := by decide +kernel
theorem cm_d19 : decode jdk_2097_method_122_code 19 = .ok (.iload_n 3, 1) := by decide +kernel
theorem cm_d20 : decode jdk_2097_method_122_code 20 = .ok (.iload 5, 2) := by decide +kernel
theorem cm_d22 : decode jdk_2097_method_122_code 22 = .ok (.if_icmp .ge 5, 3) := by decide +kernel
theorem cm_d25 : decode jdk_2097_method_122_code 25 = .ok (.iconst (-1), 1) := by decide +kernel
theorem cm_d26 : decode jdk_2097_method_122_code 26 = .ok (.ireturn, 1) := by decide +kernel
theorem cm_d27 : decode jdk_2097_method_122_code 27 = .ok (.iload_n 3, 1) := by decide +kernel
theorem cm_d28 : decode jdk_2097_method_122_code 28 = .ok (.iload 5, 2) := by decide +kernel
theorem cm_d30 : decode jdk_2097_method_122_code 30 = .ok (.if_icmp .le 5, 3) := by decide +kernel
theorem cm_d33 : decode jdk_2097_method_122_code 33 = .ok (.iconst 1, 1) := by decide +kernel
theorem cm_d34 : decode jdk_2097_method_122_code 34 = .ok (.ireturn, 1) := by decide +kernel
theorem cm_d35 : decode jdk_2097_method_122_code 35 = .ok (.iconst 0, 1) := by decide +kernel
theorem cm_d36 : decode jdk_2097_method_122_code 36 = .ok (.istore 6, 2) := by decide +kernel
theorem cm_d38 : decode jdk_2097_method_122_code 38 = .ok (.iload 6, 2) := by decide +kernel
theorem cm_d40 : decode jdk_2097_method_122_code 40 = .ok (.iload_n 3, 1) := by decide +kernel
theorem cm_d41 : decode jdk_2097_method_122_code 41 = .ok (.if_icmp .ge 53, 3) := by decide +kernel
theorem cm_d44 : decode jdk_2097_method_122_code 44 = .ok (.aload_n 2, 1) := by decide +kernel
theorem cm_d45 : decode jdk_2097_method_122_code 45 = .ok (.iload 6, 2) := by decide +kernel
theorem cm_d47 : decode jdk_2097_method_122_code 47 = .ok (.iaload, 1) := by decide +kernel
theorem cm_d48 : decode jdk_2097_method_122_code 48 = .ok (.istore 7, 2) := by decide +kernel
theorem cm_d50 : decode jdk_2097_method_122_code 50 = .ok (.aload 4, 2) := by decide +kernel
theorem cm_d52 : decode jdk_2097_method_122_code 52 = .ok (.iload 6, 2) := by decide +kernel
theorem cm_d54 : decode jdk_2097_method_122_code 54 = .ok (.iaload, 1) := by decide +kernel
theorem cm_d55 : decode jdk_2097_method_122_code 55 = .ok (.istore 8, 2) := by decide +kernel
theorem cm_d57 : decode jdk_2097_method_122_code 57 = .ok (.iload 7, 2) := by decide +kernel
theorem cm_d59 : decode jdk_2097_method_122_code 59 = .ok (.iload 8, 2) := by decide +kernel
theorem cm_d61 : decode jdk_2097_method_122_code 61 = .ok (.if_icmp .eq 27, 3) := by decide +kernel
theorem cm_d64 : decode jdk_2097_method_122_code 64 = .ok (.iload 7, 2) := by decide +kernel
theorem cm_d66 : decode jdk_2097_method_122_code 66 = .ok (.i2l, 1) := by decide +kernel
theorem cm_d67 : decode jdk_2097_method_122_code 67 = .ok (.ldc2_w 130, 3) := by decide +kernel
theorem cm_d70 : decode jdk_2097_method_122_code 70 = .ok (.land, 1) := by decide +kernel
theorem cm_d71 : decode jdk_2097_method_122_code 71 = .ok (.iload 8, 2) := by decide +kernel
theorem cm_d73 : decode jdk_2097_method_122_code 73 = .ok (.i2l, 1) := by decide +kernel
theorem cm_d74 : decode jdk_2097_method_122_code 74 = .ok (.ldc2_w 130, 3) := by decide +kernel
theorem cm_d77 : decode jdk_2097_method_122_code 77 = .ok (.land, 1) := by decide +kernel
theorem cm_d78 : decode jdk_2097_method_122_code 78 = .ok (.lcmp, 1) := by decide +kernel
theorem cm_d79 : decode jdk_2097_method_122_code 79 = .ok (.ifCond .ge 7, 3) := by decide +kernel
theorem cm_d82 : decode jdk_2097_method_122_code 82 = .ok (.iconst (-1), 1) := by decide +kernel
theorem cm_d83 : decode jdk_2097_method_122_code 83 = .ok (.goto 4, 3) := by decide +kernel
theorem cm_d86 : decode jdk_2097_method_122_code 86 = .ok (.iconst 1, 1) := by decide +kernel
theorem cm_d87 : decode jdk_2097_method_122_code 87 = .ok (.ireturn, 1) := by decide +kernel
theorem cm_d88 : decode jdk_2097_method_122_code 88 = .ok (.iinc 6 1, 3) := by decide +kernel
theorem cm_d91 : decode jdk_2097_method_122_code 91 = .ok (.goto (-53), 3) := by decide +kernel
theorem cm_d94 : decode jdk_2097_method_122_code 94 = .ok (.iconst 0, 1) := by decide +kernel
theorem cm_d95 : decode jdk_2097_method_122_code 95 = .ok (.ireturn, 1) := by decide +kernel
theorem cm_pn : plainName "java/math/BigInteger" = true := by first | (simp [plainName, overriddenIn]; done) | decide +kernel
theorem cm_ef (m : MethodId) (x0 : Addr) (x1 : Addr) : entryFrame m #[(.ref x0), (.ref x1)] 9 = mkF m 0 #[.val (.ref x0), .val (.ref x1), .unset, .unset, .unset, .unset, .unset, .unset, .unset] [] := by first | (simp [entryFrame, mkF, argsToLocals, Value.category]; done) | rfl
set_option maxRecDepth 65536 in
set_option maxHeartbeats 40000000 in
theorem rm_cm (l : Launch) (Z : State) (a0 : Array Value) (hw : ∀ d ∈ tables_1, d.before a0 Z = true) (ws : List Jvm.Cond) (a1 : Addr) (a2 : Addr) (r : Int64) (q : Int64) (h0 : Heap) (n0 : Nat) (Z0 : n0 ≤ h0.size) (B1 : OwnBig Z h0 a1 r) (B2 : OwnBig Z h0 a2 q) (hr : 0 < r) (hq : 0 < q) :
    MetFree l (⟨"java/math/BigInteger", "compareMagnitude", "(Ljava/math/BigInteger;)I"⟩ : MethodName) (head1 (Jvm.Cond.code (⟨"java/math/BigInteger", "compareMagnitude", "(Ljava/math/BigInteger;)I"⟩ : MethodName) jdk_2097_method_122_code 9 (some .int) :: ws) ({ frames := 0, cells := 0, slots := 0, locals := 0 } : Room)) (fun a U => a = #[(.ref a1), (.ref a2)] ∧ Z.Warmed39 U.vm ∧ U.heap = h0) (fun _ _ _ _ _ => True) (fun _ U o U' => OwnEnd U (fun v h L => v = some (.int (own_cmp r q)) ∧ Fr n0 L ∧ h = h0) ({ frames := 0, cells := 0, slots := 0, locals := 0 } : Room).cells ({ frames := 0, cells := 0, slots := 0, locals := 0 } : Room).slots o U') := by
  refine MetFree.of_bodySF (plainFor_of_name cm_pn) hisR ?_
  intro p e s m args below meth c s₁ Bd hml0 hP hK
  obtain ⟨rfl, hZ, hh⟩ := hP
  have hx := Bd.exec
  have hby := Bd.bytes
  have hml : c.maxLocals = 9 := hml0
  have hown : s.vm.findClass "java/math/BigInteger" = some m.cls := findClass_of_methodNamed Bd.named
  have hnm := (name_of_methodNamed Bd.named Bd.method).1
  have X0 : Stand p l e ({ frames := 0, cells := 0, slots := 0, locals := 0 } : Room) s m #[(.ref a1), (.ref a2)] below meth c s₁ [] 0 0 := Stand.of_body Bd
  have e0 : s₁.heap = h0 := by rw [← hh, Bd.state]; rfl
  have N0 := Fr.nil n0
  have KP0 := Keep.refl h0 []
  refine own_go (Q := (OwnEnd s (fun v h L => v = some (.int (own_cmp r q)) ∧ Fr n0 L ∧ h = h0) ({ frames := 0, cells := 0, slots := 0, locals := 0 } : Room).cells ({ frames := 0, cells := 0, slots := 0, locals := 0 } : Room).slots)) ?_
  refine own_back (fun t k => castTop (cm_ef m a1 a2) k) ?_
  show OwnGo p e below (s₁.setTop (mkF m 0 #[.val (.ref a1), .val (.ref a2), .unset, .unset, .unset, .unset, .unset, .unset, .unset] [])) _
  obtain ⟨t1, k1, m1, vs1, E1, S1, M1, V1, C1⟩ := B1
  obtain ⟨t2, k2, m2, vs2, E2, S2, M2, V2, C2⟩ := B2
  rcases C1 with ⟨rfl, -, -⟩ | ⟨-, u1, rfl, rfl⟩ | ⟨-, u1, rfl, rfl⟩
  · exact absurd hr (by decide)
  · rcases C2 with ⟨rfl, -, -⟩ | ⟨-, u2, rfl, rfl⟩ | ⟨-, u2, rfl, rfl⟩
    · exact absurd hq (by decide)
    · show OwnGo p e below (s₁.setTop (mkF m 0 #[.val (.ref a1), .val (.ref a2), .unset, .unset, .unset, .unset, .unset, .unset, .unset] [])) _
      refine own_back (fun t k => XS.aloadN X0.here hx rfl (hb hby cm_d0) rfl rfl k) ?_
      show OwnGo p e below (s₁.setTop (mkF m 1 #[.val (.ref a1), .val (.ref a2), .unset, .unset, .unset, .unset, .unset, .unset, .unset] [(.ref a1)])) _
      obtain ⟨T214, X214, e214, st214⟩ := getF X0 hx hZ hown (host := "") (Or.inl (hw _ (List.mem_of_getElem? (i := 50) rfl))) Via.refl e0 M1 (g := (mkF m 1 #[.val (.ref a1), .val (.ref a2), .unset, .unset, .unset, .unset, .unset, .unset, .unset] [(.ref a1)])) rfl rfl (hb hby cm_d1)
      refine own_back st214 ?_
      show OwnGo p e below (T214.setTop (mkF m 4 #[.val (.ref a1), .val (.ref a2), .unset, .unset, .unset, .unset, .unset, .unset, .unset] [(.ref t1)])) _
      refine own_back (fun t k => XS.astoreN X214.here hx rfl (hb hby cm_d4) rfl rfl (l' := #[.val (.ref a1), .val (.ref a2), .val (.ref t1), .unset, .unset, .unset, .unset, .unset, .unset]) rfl k) ?_
      show OwnGo p e below (T214.setTop (mkF m 5 #[.val (.ref a1), .val (.ref a2), .val (.ref t1), .unset, .unset, .unset, .unset, .unset, .unset] [])) _
      refine own_back (fun t k => XS.aloadN X214.here hx rfl (hb hby cm_d5) rfl rfl k) ?_
      show OwnGo p e below (T214.setTop (mkF m 6 #[.val (.ref a1), .val (.ref a2), .val (.ref t1), .unset, .unset, .unset, .unset, .unset, .unset] [(.ref t1)])) _
      obtain ⟨c215, A215, q215, S215, M215, H215, U215⟩ := id V1
      refine own_back (fun t k => X214.arraylength hx (own_hat e214 A215.1) (State.isArrayOf_alike hZ.alike A215.2.1) (g := (mkF m 6 #[.val (.ref a1), .val (.ref a2), .val (.ref t1), .unset, .unset, .unset, .unset, .unset, .unset] [(.ref t1)])) rfl rfl (hb hby cm_d6) t k) ?_
      rw [len_of S215 M215]
      show OwnGo p e below (T214.setTop (mkF m 7 #[.val (.ref a1), .val (.ref a2), .val (.ref t1), .unset, .unset, .unset, .unset, .unset, .unset] [(.int (1 : Int32))])) _
      refine own_back (fun t k => XS.istoreN X214.here hx rfl (hb hby cm_d7) rfl (l' := #[.val (.ref a1), .val (.ref a2), .val (.ref t1), .val (.int (1 : Int32)), .unset, .unset, .unset, .unset, .unset]) rfl k) ?_
      show OwnGo p e below (T214.setTop (mkF m 8 #[.val (.ref a1), .val (.ref a2), .val (.ref t1), .val (.int (1 : Int32)), .unset, .unset, .unset, .unset, .unset] [])) _
      refine own_back (fun t k => XS.aloadN X214.here hx rfl (hb hby cm_d8) rfl rfl k) ?_
      show OwnGo p e below (T214.setTop (mkF m 9 #[.val (.ref a1), .val (.ref a2), .val (.ref t1), .val (.int (1 : Int32)), .unset, .unset, .unset, .unset, .unset] [(.ref a2)])) _
      obtain ⟨T216, X216, e216, st216⟩ := getF X214 hx hZ hown (host := "") (Or.inl (hw _ (List.mem_of_getElem? (i := 50) rfl))) Via.refl e214 M2 (g := (mkF m 9 #[.val (.ref a1), .val (.ref a2), .val (.ref t1), .val (.int (1 : Int32)), .unset, .unset, .unset, .unset, .unset] [(.ref a2)])) rfl rfl (hb hby cm_d9)
      refine own_back st216 ?_
      show OwnGo p e below (T216.setTop (mkF m 12 #[.val (.ref a1), .val (.ref a2), .val (.ref t1), .val (.int (1 : Int32)), .unset, .unset, .unset, .unset, .unset] [(.ref t2)])) _
      refine own_back (fun t k => XS.astore X216.here hx rfl (hb hby cm_d12) rfl rfl (l' := #[.val (.ref a1), .val (.ref a2), .val (.ref t1), .val (.int (1 : Int32)), .val (.ref t2), .unset, .unset, .unset, .unset]) rfl k) ?_
      show OwnGo p e below (T216.setTop (mkF m 14 #[.val (.ref a1), .val (.ref a2), .val (.ref t1), .val (.int (1 : Int32)), .val (.ref t2), .unset, .unset, .unset, .unset] [])) _
      refine own_back (fun t k => XS.aload X216.here hx rfl (hb hby cm_d14) rfl rfl k) ?_
      show OwnGo p e below (T216.setTop (mkF m 16 #[.val (.ref a1), .val (.ref a2), .val (.ref t1), .val (.int (1 : Int32)), .val (.ref t2), .unset, .unset, .unset, .unset] [(.ref t2)])) _
      obtain ⟨c217, A217, q217, S217, M217, H217, U217⟩ := id V2
      refine own_back (fun t k => X216.arraylength hx (own_hat e216 A217.1) (State.isArrayOf_alike hZ.alike A217.2.1) (g := (mkF m 16 #[.val (.ref a1), .val (.ref a2), .val (.ref t1), .val (.int (1 : Int32)), .val (.ref t2), .unset, .unset, .unset, .unset] [(.ref t2)])) rfl rfl (hb hby cm_d16) t k) ?_
      rw [len_of S217 M217]
      show OwnGo p e below (T216.setTop (mkF m 17 #[.val (.ref a1), .val (.ref a2), .val (.ref t1), .val (.int (1 : Int32)), .val (.ref t2), .unset, .unset, .unset, .unset] [(.int (1 : Int32))])) _
      refine own_back (fun t k => XS.istore X216.here hx rfl (hb hby cm_d17) rfl (l' := #[.val (.ref a1), .val (.ref a2), .val (.ref t1), .val (.int (1 : Int32)), .val (.ref t2), .val (.int (1 : Int32)), .unset, .unset, .unset]) rfl k) ?_
      show OwnGo p e below (T216.setTop (mkF m 19 #[.val (.ref a1), .val (.ref a2), .val (.ref t1), .val (.int (1 : Int32)), .val (.ref t2), .val (.int (1 : Int32)), .unset, .unset, .unset] [])) _
      refine own_back (fun t k => XS.iloadN X216.here hx rfl (hb hby cm_d19) rfl k) ?_
      show OwnGo p e below (T216.setTop (mkF m 20 #[.val (.ref a1), .val (.ref a2), .val (.ref t1), .val (.int (1 : Int32)), .val (.ref t2), .val (.int (1 : Int32)), .unset, .unset, .unset] [(.int (1 : Int32))])) _
      refine own_back (fun t k => XS.iload X216.here hx rfl (hb hby cm_d20) rfl k) ?_
      show OwnGo p e below (T216.setTop (mkF m 22 #[.val (.ref a1), .val (.ref a2), .val (.ref t1), .val (.int (1 : Int32)), .val (.ref t2), .val (.int (1 : Int32)), .unset, .unset, .unset] [(.int (1 : Int32)), (.int (1 : Int32))])) _
      refine own_back (fun t k => XS.icmpYes X216.here hx rfl (pc0 := 22) (pc' := 27) rfl (hb hby cm_d22) rfl (Jvm.Free.XT.ii_ge_t (by decide)) (by decide) (by decide) k) ?_
      show OwnGo p e below (T216.setTop (mkF m 27 #[.val (.ref a1), .val (.ref a2), .val (.ref t1), .val (.int (1 : Int32)), .val (.ref t2), .val (.int (1 : Int32)), .unset, .unset, .unset] [])) _
      refine own_back (fun t k => XS.iloadN X216.here hx rfl (hb hby cm_d27) rfl k) ?_
      show OwnGo p e below (T216.setTop (mkF m 28 #[.val (.ref a1), .val (.ref a2), .val (.ref t1), .val (.int (1 : Int32)), .val (.ref t2), .val (.int (1 : Int32)), .unset, .unset, .unset] [(.int (1 : Int32))])) _
      refine own_back (fun t k => XS.iload X216.here hx rfl (hb hby cm_d28) rfl k) ?_
      show OwnGo p e below (T216.setTop (mkF m 30 #[.val (.ref a1), .val (.ref a2), .val (.ref t1), .val (.int (1 : Int32)), .val (.ref t2), .val (.int (1 : Int32)), .unset, .unset, .unset] [(.int (1 : Int32)), (.int (1 : Int32))])) _
      refine own_back (fun t k => XS.icmpYes X216.here hx rfl (pc0 := 30) (pc' := 35) rfl (hb hby cm_d30) rfl (Jvm.Free.XT.ii_le_t (by decide)) (by decide) (by decide) k) ?_
      show OwnGo p e below (T216.setTop (mkF m 35 #[.val (.ref a1), .val (.ref a2), .val (.ref t1), .val (.int (1 : Int32)), .val (.ref t2), .val (.int (1 : Int32)), .unset, .unset, .unset] [])) _
      refine own_back (fun t k => XS.iconst X216.here hx rfl (hb hby cm_d35) k) ?_
      show OwnGo p e below (T216.setTop (mkF m 36 #[.val (.ref a1), .val (.ref a2), .val (.ref t1), .val (.int (1 : Int32)), .val (.ref t2), .val (.int (1 : Int32)), .unset, .unset, .unset] [(.int (0 : Int32))])) _
      refine own_back (fun t k => XS.istore X216.here hx rfl (hb hby cm_d36) rfl (l' := #[.val (.ref a1), .val (.ref a2), .val (.ref t1), .val (.int (1 : Int32)), .val (.ref t2), .val (.int (1 : Int32)), .val (.int (0 : Int32)), .unset, .unset]) rfl k) ?_
      show OwnGo p e below (T216.setTop (mkF m 38 #[.val (.ref a1), .val (.ref a2), .val (.ref t1), .val (.int (1 : Int32)), .val (.ref t2), .val (.int (1 : Int32)), .val (.int (0 : Int32)), .unset, .unset] [])) _
      refine own_back (fun t k => XS.iload X216.here hx rfl (hb hby cm_d38) rfl k) ?_
      show OwnGo p e below (T216.setTop (mkF m 40 #[.val (.ref a1), .val (.ref a2), .val (.ref t1), .val (.int (1 : Int32)), .val (.ref t2), .val (.int (1 : Int32)), .val (.int (0 : Int32)), .unset, .unset] [(.int (0 : Int32))])) _
      refine own_back (fun t k => XS.iloadN X216.here hx rfl (hb hby cm_d40) rfl k) ?_
      show OwnGo p e below (T216.setTop (mkF m 41 #[.val (.ref a1), .val (.ref a2), .val (.ref t1), .val (.int (1 : Int32)), .val (.ref t2), .val (.int (1 : Int32)), .val (.int (0 : Int32)), .unset, .unset] [(.int (1 : Int32)), (.int (0 : Int32))])) _
      refine own_back (fun t k => XS.icmpNo X216.here hx rfl (hb hby cm_d41) rfl (Jvm.Free.XT.ii_ge_f (by decide)) k) ?_
      show OwnGo p e below (T216.setTop (mkF m 44 #[.val (.ref a1), .val (.ref a2), .val (.ref t1), .val (.int (1 : Int32)), .val (.ref t2), .val (.int (1 : Int32)), .val (.int (0 : Int32)), .unset, .unset] [])) _
      refine own_back (fun t k => XS.aloadN X216.here hx rfl (hb hby cm_d44) rfl rfl k) ?_
      show OwnGo p e below (T216.setTop (mkF m 45 #[.val (.ref a1), .val (.ref a2), .val (.ref t1), .val (.int (1 : Int32)), .val (.ref t2), .val (.int (1 : Int32)), .val (.int (0 : Int32)), .unset, .unset] [(.ref t1)])) _
      refine own_back (fun t k => XS.iload X216.here hx rfl (hb hby cm_d45) rfl k) ?_
      show OwnGo p e below (T216.setTop (mkF m 47 #[.val (.ref a1), .val (.ref a2), .val (.ref t1), .val (.int (1 : Int32)), .val (.ref t2), .val (.int (1 : Int32)), .val (.int (0 : Int32)), .unset, .unset] [(.int (0 : Int32)), (.ref t1)])) _
      obtain ⟨c218, A218, q218, S218, M218, H218, U218⟩ := id V1
      have ib219 : ¬ ((0 : Int32) < 0 ∨ c218.slots.size ≤ ((0 : Int32)).toNatClampNeg) := (inb_of S218 ⟨by decide, by decide⟩)
      refine own_back (fun t k => X216.iaload hx (j := (0 : Int32)) (v := (.int r.toInt32)) (own_hat e216 A218.1) (State.isArrayOf_alike hZ.alike A218.2.1) A218.2.2 ib219 (H218.at ib219 rfl) (g := (mkF m 47 #[.val (.ref a1), .val (.ref a2), .val (.ref t1), .val (.int (1 : Int32)), .val (.ref t2), .val (.int (1 : Int32)), .val (.int (0 : Int32)), .unset, .unset] [(.int (0 : Int32)), (.ref t1)])) rfl rfl (hb hby cm_d47) t k) ?_
      show OwnGo p e below (T216.setTop (mkF m 48 #[.val (.ref a1), .val (.ref a2), .val (.ref t1), .val (.int (1 : Int32)), .val (.ref t2), .val (.int (1 : Int32)), .val (.int (0 : Int32)), .unset, .unset] [(.int r.toInt32)])) _
      refine own_back (fun t k => XS.istore X216.here hx rfl (hb hby cm_d48) rfl (l' := #[.val (.ref a1), .val (.ref a2), .val (.ref t1), .val (.int (1 : Int32)), .val (.ref t2), .val (.int (1 : Int32)), .val (.int (0 : Int32)), .val (.int r.toInt32), .unset]) rfl k) ?_
      show OwnGo p e below (T216.setTop (mkF m 50 #[.val (.ref a1), .val (.ref a2), .val (.ref t1), .val (.int (1 : Int32)), .val (.ref t2), .val (.int (1 : Int32)), .val (.int (0 : Int32)), .val (.int r.toInt32), .unset] [])) _
      refine own_back (fun t k => XS.aload X216.here hx rfl (hb hby cm_d50) rfl rfl k) ?_
      show OwnGo p e below (T216.setTop (mkF m 52 #[.val (.ref a1), .val (.ref a2), .val (.ref t1), .val (.int (1 : Int32)), .val (.ref t2), .val (.int (1 : Int32)), .val (.int (0 : Int32)), .val (.int r.toInt32), .unset] [(.ref t2)])) _
      refine own_back (fun t k => XS.iload X216.here hx rfl (hb hby cm_d52) rfl k) ?_
      show OwnGo p e below (T216.setTop (mkF m 54 #[.val (.ref a1), .val (.ref a2), .val (.ref t1), .val (.int (1 : Int32)), .val (.ref t2), .val (.int (1 : Int32)), .val (.int (0 : Int32)), .val (.int r.toInt32), .unset] [(.int (0 : Int32)), (.ref t2)])) _
      obtain ⟨c220, A220, q220, S220, M220, H220, U220⟩ := id V2
      have ib221 : ¬ ((0 : Int32) < 0 ∨ c220.slots.size ≤ ((0 : Int32)).toNatClampNeg) := (inb_of S220 ⟨by decide, by decide⟩)
      refine own_back (fun t k => X216.iaload hx (j := (0 : Int32)) (v := (.int q.toInt32)) (own_hat e216 A220.1) (State.isArrayOf_alike hZ.alike A220.2.1) A220.2.2 ib221 (H220.at ib221 rfl) (g := (mkF m 54 #[.val (.ref a1), .val (.ref a2), .val (.ref t1), .val (.int (1 : Int32)), .val (.ref t2), .val (.int (1 : Int32)), .val (.int (0 : Int32)), .val (.int r.toInt32), .unset] [(.int (0 : Int32)), (.ref t2)])) rfl rfl (hb hby cm_d54) t k) ?_
      show OwnGo p e below (T216.setTop (mkF m 55 #[.val (.ref a1), .val (.ref a2), .val (.ref t1), .val (.int (1 : Int32)), .val (.ref t2), .val (.int (1 : Int32)), .val (.int (0 : Int32)), .val (.int r.toInt32), .unset] [(.int q.toInt32)])) _
      refine own_back (fun t k => XS.istore X216.here hx rfl (hb hby cm_d55) rfl (l' := #[.val (.ref a1), .val (.ref a2), .val (.ref t1), .val (.int (1 : Int32)), .val (.ref t2), .val (.int (1 : Int32)), .val (.int (0 : Int32)), .val (.int r.toInt32), .val (.int q.toInt32)]) rfl k) ?_
      show OwnGo p e below (T216.setTop (mkF m 57 #[.val (.ref a1), .val (.ref a2), .val (.ref t1), .val (.int (1 : Int32)), .val (.ref t2), .val (.int (1 : Int32)), .val (.int (0 : Int32)), .val (.int r.toInt32), .val (.int q.toInt32)] [])) _
      refine own_back (fun t k => XS.iload X216.here hx rfl (hb hby cm_d57) rfl k) ?_
      show OwnGo p e below (T216.setTop (mkF m 59 #[.val (.ref a1), .val (.ref a2), .val (.ref t1), .val (.int (1 : Int32)), .val (.ref t2), .val (.int (1 : Int32)), .val (.int (0 : Int32)), .val (.int r.toInt32), .val (.int q.toInt32)] [(.int r.toInt32)])) _
      refine own_back (fun t k => XS.iload X216.here hx rfl (hb hby cm_d59) rfl k) ?_
      show OwnGo p e below (T216.setTop (mkF m 61 #[.val (.ref a1), .val (.ref a2), .val (.ref t1), .val (.int (1 : Int32)), .val (.ref t2), .val (.int (1 : Int32)), .val (.int (0 : Int32)), .val (.int r.toInt32), .val (.int q.toInt32)] [(.int q.toInt32), (.int r.toInt32)])) _
      by_cases hc61_222 : r.toInt32 = q.toInt32
      · refine own_back (fun t k => XS.icmpYes X216.here hx rfl (pc0 := 61) (pc' := 88) rfl (hb hby cm_d61) rfl (Jvm.Free.XT.ii_eq_t hc61_222) (by decide) (by decide) k) ?_
        show OwnGo p e below (T216.setTop (mkF m 88 #[.val (.ref a1), .val (.ref a2), .val (.ref t1), .val (.int (1 : Int32)), .val (.ref t2), .val (.int (1 : Int32)), .val (.int (0 : Int32)), .val (.int r.toInt32), .val (.int q.toInt32)] [])) _
        refine own_back (fun t k => XS.iinc X216.here hx rfl (hb hby cm_d88) rfl (l' := #[.val (.ref a1), .val (.ref a2), .val (.ref t1), .val (.int (1 : Int32)), .val (.ref t2), .val (.int (1 : Int32)), .val (.int (1 : Int32)), .val (.int r.toInt32), .val (.int q.toInt32)]) rfl k) ?_
        show OwnGo p e below (T216.setTop (mkF m 91 #[.val (.ref a1), .val (.ref a2), .val (.ref t1), .val (.int (1 : Int32)), .val (.ref t2), .val (.int (1 : Int32)), .val (.int (1 : Int32)), .val (.int r.toInt32), .val (.int q.toInt32)] [])) _
        refine own_back (fun t k => XS.goto X216.here hx rfl (pc0 := 91) (pc' := 38) rfl (hb hby cm_d91) (by decide) (by decide) k) ?_
        show OwnGo p e below (T216.setTop (mkF m 38 #[.val (.ref a1), .val (.ref a2), .val (.ref t1), .val (.int (1 : Int32)), .val (.ref t2), .val (.int (1 : Int32)), .val (.int (1 : Int32)), .val (.int r.toInt32), .val (.int q.toInt32)] [])) _
        refine own_back (fun t k => XS.iload X216.here hx rfl (hb hby cm_d38) rfl k) ?_
        show OwnGo p e below (T216.setTop (mkF m 40 #[.val (.ref a1), .val (.ref a2), .val (.ref t1), .val (.int (1 : Int32)), .val (.ref t2), .val (.int (1 : Int32)), .val (.int (1 : Int32)), .val (.int r.toInt32), .val (.int q.toInt32)] [(.int (1 : Int32))])) _
        refine own_back (fun t k => XS.iloadN X216.here hx rfl (hb hby cm_d40) rfl k) ?_
        show OwnGo p e below (T216.setTop (mkF m 41 #[.val (.ref a1), .val (.ref a2), .val (.ref t1), .val (.int (1 : Int32)), .val (.ref t2), .val (.int (1 : Int32)), .val (.int (1 : Int32)), .val (.int r.toInt32), .val (.int q.toInt32)] [(.int (1 : Int32)), (.int (1 : Int32))])) _
        refine own_back (fun t k => XS.icmpYes X216.here hx rfl (pc0 := 41) (pc' := 94) rfl (hb hby cm_d41) rfl (Jvm.Free.XT.ii_ge_t (by decide)) (by decide) (by decide) k) ?_
        show OwnGo p e below (T216.setTop (mkF m 94 #[.val (.ref a1), .val (.ref a2), .val (.ref t1), .val (.int (1 : Int32)), .val (.ref t2), .val (.int (1 : Int32)), .val (.int (1 : Int32)), .val (.int r.toInt32), .val (.int q.toInt32)] [])) _
        refine own_back (fun t k => XS.iconst X216.here hx rfl (hb hby cm_d94) k) ?_
        show OwnGo p e below (T216.setTop (mkF m 95 #[.val (.ref a1), .val (.ref a2), .val (.ref t1), .val (.int (1 : Int32)), .val (.ref t2), .val (.int (1 : Int32)), .val (.int (1 : Int32)), .val (.int r.toInt32), .val (.int q.toInt32)] [(.int (0 : Int32))])) _
        refine own_retI X216 hx Bd.notSynchronized Bd.returns (hb hby cm_d95) e216 (Nat.le_of_ble_eq_true rfl) (Nat.le_of_ble_eq_true rfl) ?_
        have w1 := own_hi_eq r (own_pos hr)
        have w2 := own_hi_eq q (own_pos hq)
        have w3 := own_lo_eq r (own_pos hr)
        have w4 := own_lo_eq q (own_pos hq)
        have w5 := own_pos hr
        have w6 := own_pos hq
        have w7 := r.toInt_lt
        have w8 := q.toInt_lt
        have w9 := r.toInt32.toInt_lt
        have w10 := r.toInt32.le_toInt
        have w11 := q.toInt32.toInt_lt
        have w12 := q.toInt32.le_toInt
        simp only [Int64.lt_iff_toInt_lt, own_ii, own_mk, own_z64, own_z32] at w5 w6 u1 u2 hc61_222
        refine ⟨by rw [own_cmp_eq (by omega)], N0, rfl⟩
      · refine own_back (fun t k => XS.icmpNo X216.here hx rfl (hb hby cm_d61) rfl (Jvm.Free.XT.ii_eq_f hc61_222) k) ?_
        show OwnGo p e below (T216.setTop (mkF m 64 #[.val (.ref a1), .val (.ref a2), .val (.ref t1), .val (.int (1 : Int32)), .val (.ref t2), .val (.int (1 : Int32)), .val (.int (0 : Int32)), .val (.int r.toInt32), .val (.int q.toInt32)] [])) _
        refine own_back (fun t k => XS.iload X216.here hx rfl (hb hby cm_d64) rfl k) ?_
        show OwnGo p e below (T216.setTop (mkF m 66 #[.val (.ref a1), .val (.ref a2), .val (.ref t1), .val (.int (1 : Int32)), .val (.ref t2), .val (.int (1 : Int32)), .val (.int (0 : Int32)), .val (.int r.toInt32), .val (.int q.toInt32)] [(.int r.toInt32)])) _
        refine own_back (fun t k => XS.i2l X216.here hx rfl (hb hby cm_d66) rfl k) ?_
        show OwnGo p e below (T216.setTop (mkF m 67 #[.val (.ref a1), .val (.ref a2), .val (.ref t1), .val (.int (1 : Int32)), .val (.ref t2), .val (.int (1 : Int32)), .val (.int (0 : Int32)), .val (.int r.toInt32), .val (.int q.toInt32)] [(.long r.toInt32.toInt64)])) _
        refine own_back (fun t k => X216.ldc2Long hx hown (mvT hZ (hw _ (List.mem_of_getElem? (i := 52) rfl))) (g := (mkF m 67 #[.val (.ref a1), .val (.ref a2), .val (.ref t1), .val (.int (1 : Int32)), .val (.ref t2), .val (.int (1 : Int32)), .val (.int (0 : Int32)), .val (.int r.toInt32), .val (.int q.toInt32)] [(.long r.toInt32.toInt64)])) rfl (hb hby cm_d67) t k) ?_
        show OwnGo p e below (T216.setTop (mkF m 70 #[.val (.ref a1), .val (.ref a2), .val (.ref t1), .val (.int (1 : Int32)), .val (.ref t2), .val (.int (1 : Int32)), .val (.int (0 : Int32)), .val (.int r.toInt32), .val (.int q.toInt32)] [(.long (4294967295 : Int64)), (.long r.toInt32.toInt64)])) _
        refine own_back (fun t k => XS.land X216.here hx rfl (hb hby cm_d70) rfl k) ?_
        show OwnGo p e below (T216.setTop (mkF m 71 #[.val (.ref a1), .val (.ref a2), .val (.ref t1), .val (.int (1 : Int32)), .val (.ref t2), .val (.int (1 : Int32)), .val (.int (0 : Int32)), .val (.int r.toInt32), .val (.int q.toInt32)] [(.long (r.toInt32.toInt64 &&& (4294967295 : Int64)))])) _
        refine own_back (fun t k => XS.iload X216.here hx rfl (hb hby cm_d71) rfl k) ?_
        show OwnGo p e below (T216.setTop (mkF m 73 #[.val (.ref a1), .val (.ref a2), .val (.ref t1), .val (.int (1 : Int32)), .val (.ref t2), .val (.int (1 : Int32)), .val (.int (0 : Int32)), .val (.int r.toInt32), .val (.int q.toInt32)] [(.int q.toInt32), (.long (r.toInt32.toInt64 &&& (4294967295 : Int64)))])) _
        refine own_back (fun t k => XS.i2l X216.here hx rfl (hb hby cm_d73) rfl k) ?_
        show OwnGo p e below (T216.setTop (mkF m 74 #[.val (.ref a1), .val (.ref a2), .val (.ref t1), .val (.int (1 : Int32)), .val (.ref t2), .val (.int (1 : Int32)), .val (.int (0 : Int32)), .val (.int r.toInt32), .val (.int q.toInt32)] [(.long q.toInt32.toInt64), (.long (r.toInt32.toInt64 &&& (4294967295 : Int64)))])) _
        refine own_back (fun t k => X216.ldc2Long hx hown (mvT hZ (hw _ (List.mem_of_getElem? (i := 52) rfl))) (g := (mkF m 74 #[.val (.ref a1), .val (.ref a2), .val (.ref t1), .val (.int (1 : Int32)), .val (.ref t2), .val (.int (1 : Int32)), .val (.int (0 : Int32)), .val (.int r.toInt32), .val (.int q.toInt32)] [(.long q.toInt32.toInt64), (.long (r.toInt32.toInt64 &&& (4294967295 : Int64)))])) rfl (hb hby cm_d74) t k) ?_
        show OwnGo p e below (T216.setTop (mkF m 77 #[.val (.ref a1), .val (.ref a2), .val (.ref t1), .val (.int (1 : Int32)), .val (.ref t2), .val (.int (1 : Int32)), .val (.int (0 : Int32)), .val (.int r.toInt32), .val (.int q.toInt32)] [(.long (4294967295 : Int64)), (.long q.toInt32.toInt64), (.long (r.toInt32.toInt64 &&& (4294967295 : Int64)))])) _
        refine own_back (fun t k => XS.land X216.here hx rfl (hb hby cm_d77) rfl k) ?_
        show OwnGo p e below (T216.setTop (mkF m 78 #[.val (.ref a1), .val (.ref a2), .val (.ref t1), .val (.int (1 : Int32)), .val (.ref t2), .val (.int (1 : Int32)), .val (.int (0 : Int32)), .val (.int r.toInt32), .val (.int q.toInt32)] [(.long (q.toInt32.toInt64 &&& (4294967295 : Int64))), (.long (r.toInt32.toInt64 &&& (4294967295 : Int64)))])) _
        refine own_back (fun t k => XT.lcmp X216.here hx rfl (hb hby cm_d78) rfl k) ?_
        show OwnGo p e below (T216.setTop (mkF m 79 #[.val (.ref a1), .val (.ref a2), .val (.ref t1), .val (.int (1 : Int32)), .val (.ref t2), .val (.int (1 : Int32)), .val (.int (0 : Int32)), .val (.int r.toInt32), .val (.int q.toInt32)] [(.int (XT.cmpL (r.toInt32.toInt64 &&& (4294967295 : Int64)) (q.toInt32.toInt64 &&& (4294967295 : Int64))))])) _
        by_cases hc79_223 : (r.toInt32.toInt64 &&& (4294967295 : Int64)) < (q.toInt32.toInt64 &&& (4294967295 : Int64))
        · refine own_back (fun t k => XS.ifNo X216.here hx rfl (hb hby cm_d79) rfl (Jvm.Free.XT.ll_ge_f hc79_223) k) ?_
          show OwnGo p e below (T216.setTop (mkF m 82 #[.val (.ref a1), .val (.ref a2), .val (.ref t1), .val (.int (1 : Int32)), .val (.ref t2), .val (.int (1 : Int32)), .val (.int (0 : Int32)), .val (.int r.toInt32), .val (.int q.toInt32)] [])) _
          refine own_back (fun t k => XS.iconst X216.here hx rfl (hb hby cm_d82) k) ?_
          show OwnGo p e below (T216.setTop (mkF m 83 #[.val (.ref a1), .val (.ref a2), .val (.ref t1), .val (.int (1 : Int32)), .val (.ref t2), .val (.int (1 : Int32)), .val (.int (0 : Int32)), .val (.int r.toInt32), .val (.int q.toInt32)] [(.int (-1 : Int32))])) _
          refine own_back (fun t k => XS.goto X216.here hx rfl (pc0 := 83) (pc' := 87) rfl (hb hby cm_d83) (by decide) (by decide) k) ?_
          show OwnGo p e below (T216.setTop (mkF m 87 #[.val (.ref a1), .val (.ref a2), .val (.ref t1), .val (.int (1 : Int32)), .val (.ref t2), .val (.int (1 : Int32)), .val (.int (0 : Int32)), .val (.int r.toInt32), .val (.int q.toInt32)] [(.int (-1 : Int32))])) _
          refine own_retI X216 hx Bd.notSynchronized Bd.returns (hb hby cm_d87) e216 (Nat.le_of_ble_eq_true rfl) (Nat.le_of_ble_eq_true rfl) ?_
          have w1 := own_hi_eq r (own_pos hr)
          have w2 := own_hi_eq q (own_pos hq)
          have w3 := own_lo_eq r (own_pos hr)
          have w4 := own_lo_eq q (own_pos hq)
          have w5 := own_pos hr
          have w6 := own_pos hq
          have w7 := r.toInt_lt
          have w8 := q.toInt_lt
          have w9 := r.toInt32.toInt_lt
          have w10 := r.toInt32.le_toInt
          have w11 := q.toInt32.toInt_lt
          have w12 := q.toInt32.le_toInt
          simp only [Int64.lt_iff_toInt_lt, own_ii, own_mk, own_z64, own_z32] at w5 w6 u1 u2 hc61_222 hc79_223
          refine ⟨by rw [own_cmp_lt (by omega)], N0, rfl⟩
        · refine own_back (fun t k => XS.ifYes X216.here hx rfl (pc0 := 79) (pc' := 86) rfl (hb hby cm_d79) rfl (Jvm.Free.XT.ll_ge_t hc79_223) (by decide) (by decide) k) ?_
          show OwnGo p e below (T216.setTop (mkF m 86 #[.val (.ref a1), .val (.ref a2), .val (.ref t1), .val (.int (1 : Int32)), .val (.ref t2), .val (.int (1 : Int32)), .val (.int (0 : Int32)), .val (.int r.toInt32), .val (.int q.toInt32)] [])) _
          refine own_back (fun t k => XS.iconst X216.here hx rfl (hb hby cm_d86) k) ?_
          show OwnGo p e below (T216.setTop (mkF m 87 #[.val (.ref a1), .val (.ref a2), .val (.ref t1), .val (.int (1 : Int32)), .val (.ref t2), .val (.int (1 : Int32)), .val (.int (0 : Int32)), .val (.int r.toInt32), .val (.int q.toInt32)] [(.int (1 : Int32))])) _
          refine own_retI X216 hx Bd.notSynchronized Bd.returns (hb hby cm_d87) e216 (Nat.le_of_ble_eq_true rfl) (Nat.le_of_ble_eq_true rfl) ?_
          have w1 := own_hi_eq r (own_pos hr)
          have w2 := own_hi_eq q (own_pos hq)
          have w3 := own_lo_eq r (own_pos hr)
          have w4 := own_lo_eq q (own_pos hq)
          have w5 := own_pos hr
          have w6 := own_pos hq
          have w7 := r.toInt_lt
          have w8 := q.toInt_lt
          have w9 := r.toInt32.toInt_lt
          have w10 := r.toInt32.le_toInt
          have w11 := q.toInt32.toInt_lt
          have w12 := q.toInt32.le_toInt
          simp only [Int64.lt_iff_toInt_lt, own_ii, own_mk, own_z64, own_z32] at w5 w6 u1 u2 hc61_222 hc79_223
          refine ⟨by rw [own_cmp_gt (by omega)], N0, rfl⟩
    · show OwnGo p e below (s₁.setTop (mkF m 0 #[.val (.ref a1), .val (.ref a2), .unset, .unset, .unset, .unset, .unset, .unset, .unset] [])) _
      refine own_back (fun t k => XS.aloadN X0.here hx rfl (hb hby cm_d0) rfl rfl k) ?_
      show OwnGo p e below (s₁.setTop (mkF m 1 #[.val (.ref a1), .val (.ref a2), .unset, .unset, .unset, .unset, .unset, .unset, .unset] [(.ref a1)])) _
      obtain ⟨T224, X224, e224, st224⟩ := getF X0 hx hZ hown (host := "") (Or.inl (hw _ (List.mem_of_getElem? (i := 50) rfl))) Via.refl e0 M1 (g := (mkF m 1 #[.val (.ref a1), .val (.ref a2), .unset, .unset, .unset, .unset, .unset, .unset, .unset] [(.ref a1)])) rfl rfl (hb hby cm_d1)
      refine own_back st224 ?_
      show OwnGo p e below (T224.setTop (mkF m 4 #[.val (.ref a1), .val (.ref a2), .unset, .unset, .unset, .unset, .unset, .unset, .unset] [(.ref t1)])) _
      refine own_back (fun t k => XS.astoreN X224.here hx rfl (hb hby cm_d4) rfl rfl (l' := #[.val (.ref a1), .val (.ref a2), .val (.ref t1), .unset, .unset, .unset, .unset, .unset, .unset]) rfl k) ?_
      show OwnGo p e below (T224.setTop (mkF m 5 #[.val (.ref a1), .val (.ref a2), .val (.ref t1), .unset, .unset, .unset, .unset, .unset, .unset] [])) _
      refine own_back (fun t k => XS.aloadN X224.here hx rfl (hb hby cm_d5) rfl rfl k) ?_
      show OwnGo p e below (T224.setTop (mkF m 6 #[.val (.ref a1), .val (.ref a2), .val (.ref t1), .unset, .unset, .unset, .unset, .unset, .unset] [(.ref t1)])) _
      obtain ⟨c225, A225, q225, S225, M225, H225, U225⟩ := id V1
      refine own_back (fun t k => X224.arraylength hx (own_hat e224 A225.1) (State.isArrayOf_alike hZ.alike A225.2.1) (g := (mkF m 6 #[.val (.ref a1), .val (.ref a2), .val (.ref t1), .unset, .unset, .unset, .unset, .unset, .unset] [(.ref t1)])) rfl rfl (hb hby cm_d6) t k) ?_
      rw [len_of S225 M225]
      show OwnGo p e below (T224.setTop (mkF m 7 #[.val (.ref a1), .val (.ref a2), .val (.ref t1), .unset, .unset, .unset, .unset, .unset, .unset] [(.int (1 : Int32))])) _
      refine own_back (fun t k => XS.istoreN X224.here hx rfl (hb hby cm_d7) rfl (l' := #[.val (.ref a1), .val (.ref a2), .val (.ref t1), .val (.int (1 : Int32)), .unset, .unset, .unset, .unset, .unset]) rfl k) ?_
      show OwnGo p e below (T224.setTop (mkF m 8 #[.val (.ref a1), .val (.ref a2), .val (.ref t1), .val (.int (1 : Int32)), .unset, .unset, .unset, .unset, .unset] [])) _
      refine own_back (fun t k => XS.aloadN X224.here hx rfl (hb hby cm_d8) rfl rfl k) ?_
      show OwnGo p e below (T224.setTop (mkF m 9 #[.val (.ref a1), .val (.ref a2), .val (.ref t1), .val (.int (1 : Int32)), .unset, .unset, .unset, .unset, .unset] [(.ref a2)])) _
      obtain ⟨T226, X226, e226, st226⟩ := getF X224 hx hZ hown (host := "") (Or.inl (hw _ (List.mem_of_getElem? (i := 50) rfl))) Via.refl e224 M2 (g := (mkF m 9 #[.val (.ref a1), .val (.ref a2), .val (.ref t1), .val (.int (1 : Int32)), .unset, .unset, .unset, .unset, .unset] [(.ref a2)])) rfl rfl (hb hby cm_d9)
      refine own_back st226 ?_
      show OwnGo p e below (T226.setTop (mkF m 12 #[.val (.ref a1), .val (.ref a2), .val (.ref t1), .val (.int (1 : Int32)), .unset, .unset, .unset, .unset, .unset] [(.ref t2)])) _
      refine own_back (fun t k => XS.astore X226.here hx rfl (hb hby cm_d12) rfl rfl (l' := #[.val (.ref a1), .val (.ref a2), .val (.ref t1), .val (.int (1 : Int32)), .val (.ref t2), .unset, .unset, .unset, .unset]) rfl k) ?_
      show OwnGo p e below (T226.setTop (mkF m 14 #[.val (.ref a1), .val (.ref a2), .val (.ref t1), .val (.int (1 : Int32)), .val (.ref t2), .unset, .unset, .unset, .unset] [])) _
      refine own_back (fun t k => XS.aload X226.here hx rfl (hb hby cm_d14) rfl rfl k) ?_
      show OwnGo p e below (T226.setTop (mkF m 16 #[.val (.ref a1), .val (.ref a2), .val (.ref t1), .val (.int (1 : Int32)), .val (.ref t2), .unset, .unset, .unset, .unset] [(.ref t2)])) _
      obtain ⟨c227, A227, q227, S227, M227, H227, U227⟩ := id V2
      refine own_back (fun t k => X226.arraylength hx (own_hat e226 A227.1) (State.isArrayOf_alike hZ.alike A227.2.1) (g := (mkF m 16 #[.val (.ref a1), .val (.ref a2), .val (.ref t1), .val (.int (1 : Int32)), .val (.ref t2), .unset, .unset, .unset, .unset] [(.ref t2)])) rfl rfl (hb hby cm_d16) t k) ?_
      rw [len_of S227 M227]
      show OwnGo p e below (T226.setTop (mkF m 17 #[.val (.ref a1), .val (.ref a2), .val (.ref t1), .val (.int (1 : Int32)), .val (.ref t2), .unset, .unset, .unset, .unset] [(.int (2 : Int32))])) _
      refine own_back (fun t k => XS.istore X226.here hx rfl (hb hby cm_d17) rfl (l' := #[.val (.ref a1), .val (.ref a2), .val (.ref t1), .val (.int (1 : Int32)), .val (.ref t2), .val (.int (2 : Int32)), .unset, .unset, .unset]) rfl k) ?_
      show OwnGo p e below (T226.setTop (mkF m 19 #[.val (.ref a1), .val (.ref a2), .val (.ref t1), .val (.int (1 : Int32)), .val (.ref t2), .val (.int (2 : Int32)), .unset, .unset, .unset] [])) _
      refine own_back (fun t k => XS.iloadN X226.here hx rfl (hb hby cm_d19) rfl k) ?_
      show OwnGo p e below (T226.setTop (mkF m 20 #[.val (.ref a1), .val (.ref a2), .val (.ref t1), .val (.int (1 : Int32)), .val (.ref t2), .val (.int (2 : Int32)), .unset, .unset, .unset] [(.int (1 : Int32))])) _
      refine own_back (fun t k => XS.iload X226.here hx rfl (hb hby cm_d20) rfl k) ?_
      show OwnGo p e below (T226.setTop (mkF m 22 #[.val (.ref a1), .val (.ref a2), .val (.ref t1), .val (.int (1 : Int32)), .val (.ref t2), .val (.int (2 : Int32)), .unset, .unset, .unset] [(.int (2 : Int32)), (.int (1 : Int32))])) _
      refine own_back (fun t k => XS.icmpNo X226.here hx rfl (hb hby cm_d22) rfl (Jvm.Free.XT.ii_ge_f (by decide)) k) ?_
      show OwnGo p e below (T226.setTop (mkF m 25 #[.val (.ref a1), .val (.ref a2), .val (.ref t1), .val (.int (1 : Int32)), .val (.ref t2), .val (.int (2 : Int32)), .unset, .unset, .unset] [])) _
      refine own_back (fun t k => XS.iconst X226.here hx rfl (hb hby cm_d25) k) ?_
      show OwnGo p e below (T226.setTop (mkF m 26 #[.val (.ref a1), .val (.ref a2), .val (.ref t1), .val (.int (1 : Int32)), .val (.ref t2), .val (.int (2 : Int32)), .unset, .unset, .unset] [(.int (-1 : Int32))])) _
      refine own_retI X226 hx Bd.notSynchronized Bd.returns (hb hby cm_d26) e226 (Nat.le_of_ble_eq_true rfl) (Nat.le_of_ble_eq_true rfl) ?_
      have w1 := own_hi_eq r (own_pos hr)
      have w2 := own_hi_eq q (own_pos hq)
      have w3 := own_lo_eq r (own_pos hr)
      have w4 := own_lo_eq q (own_pos hq)
      have w5 := own_pos hr
      have w6 := own_pos hq
      have w7 := r.toInt_lt
      have w8 := q.toInt_lt
      have w9 := r.toInt32.toInt_lt
      have w10 := r.toInt32.le_toInt
      have w11 := q.toInt32.toInt_lt
      have w12 := q.toInt32.le_toInt
      simp only [Int64.lt_iff_toInt_lt, own_ii, own_mk, own_z64, own_z32] at w5 w6 u1 u2
      refine ⟨by rw [own_cmp_lt (by omega)], N0, rfl⟩
  · rcases C2 with ⟨rfl, -, -⟩ | ⟨-, u2, rfl, rfl⟩ | ⟨-, u2, rfl, rfl⟩
    · exact absurd hq (by decide)
    · show OwnGo p e below (s₁.setTop (mkF m 0 #[.val (.ref a1), .val (.ref a2), .unset, .unset, .unset, .unset, .unset, .unset, .unset] [])) _
      refine own_back (fun t k => XS.aloadN X0.here hx rfl (hb hby cm_d0) rfl rfl k) ?_
      show OwnGo p e below (s₁.setTop (mkF m 1 #[.val (.ref a1), .val (.ref a2), .unset, .unset, .unset, .unset, .unset, .unset, .unset] [(.ref a1)])) _
      obtain ⟨T228, X228, e228, st228⟩ := getF X0 hx hZ hown (host := "") (Or.inl (hw _ (List.mem_of_getElem? (i := 50) rfl))) Via.refl e0 M1 (g := (mkF m 1 #[.val (.ref a1), .val (.ref a2), .unset, .unset, .unset, .unset, .unset, .unset, .unset] [(.ref a1)])) rfl rfl (hb hby cm_d1)
      refine own_back st228 ?_
      show OwnGo p e below (T228.setTop (mkF m 4 #[.val (.ref a1), .val (.ref a2), .unset, .unset, .unset, .unset, .unset, .unset, .unset] [(.ref t1)])) _
      refine own_back (fun t k => XS.astoreN X228.here hx rfl (hb hby cm_d4) rfl rfl (l' := #[.val (.ref a1), .val (.ref a2), .val (.ref t1), .unset, .unset, .unset, .unset, .unset, .unset]) rfl k) ?_
      show OwnGo p e below (T228.setTop (mkF m 5 #[.val (.ref a1), .val (.ref a2), .val (.ref t1), .unset, .unset, .unset, .unset, .unset, .unset] [])) _
      refine own_back (fun t k => XS.aloadN X228.here hx rfl (hb hby cm_d5) rfl rfl k) ?_
      show OwnGo p e below (T228.setTop (mkF m 6 #[.val (.ref a1), .val (.ref a2), .val (.ref t1), .unset, .unset, .unset, .unset, .unset, .unset] [(.ref t1)])) _
      obtain ⟨c229, A229, q229, S229, M229, H229, U229⟩ := id V1
      refine own_back (fun t k => X228.arraylength hx (own_hat e228 A229.1) (State.isArrayOf_alike hZ.alike A229.2.1) (g := (mkF m 6 #[.val (.ref a1), .val (.ref a2), .val (.ref t1), .unset, .unset, .unset, .unset, .unset, .unset] [(.ref t1)])) rfl rfl (hb hby cm_d6) t k) ?_
      rw [len_of S229 M229]
      show OwnGo p e below (T228.setTop (mkF m 7 #[.val (.ref a1), .val (.ref a2), .val (.ref t1), .unset, .unset, .unset, .unset, .unset, .unset] [(.int (2 : Int32))])) _
      refine own_back (fun t k => XS.istoreN X228.here hx rfl (hb hby cm_d7) rfl (l' := #[.val (.ref a1), .val (.ref a2), .val (.ref t1), .val (.int (2 : Int32)), .unset, .unset, .unset, .unset, .unset]) rfl k) ?_
      show OwnGo p e below (T228.setTop (mkF m 8 #[.val (.ref a1), .val (.ref a2), .val (.ref t1), .val (.int (2 : Int32)), .unset, .unset, .unset, .unset, .unset] [])) _
      refine own_back (fun t k => XS.aloadN X228.here hx rfl (hb hby cm_d8) rfl rfl k) ?_
      show OwnGo p e below (T228.setTop (mkF m 9 #[.val (.ref a1), .val (.ref a2), .val (.ref t1), .val (.int (2 : Int32)), .unset, .unset, .unset, .unset, .unset] [(.ref a2)])) _
      obtain ⟨T230, X230, e230, st230⟩ := getF X228 hx hZ hown (host := "") (Or.inl (hw _ (List.mem_of_getElem? (i := 50) rfl))) Via.refl e228 M2 (g := (mkF m 9 #[.val (.ref a1), .val (.ref a2), .val (.ref t1), .val (.int (2 : Int32)), .unset, .unset, .unset, .unset, .unset] [(.ref a2)])) rfl rfl (hb hby cm_d9)
      refine own_back st230 ?_
      show OwnGo p e below (T230.setTop (mkF m 12 #[.val (.ref a1), .val (.ref a2), .val (.ref t1), .val (.int (2 : Int32)), .unset, .unset, .unset, .unset, .unset] [(.ref t2)])) _
      refine own_back (fun t k => XS.astore X230.here hx rfl (hb hby cm_d12) rfl rfl (l' := #[.val (.ref a1), .val (.ref a2), .val (.ref t1), .val (.int (2 : Int32)), .val (.ref t2), .unset, .unset, .unset, .unset]) rfl k) ?_
      show OwnGo p e below (T230.setTop (mkF m 14 #[.val (.ref a1), .val (.ref a2), .val (.ref t1), .val (.int (2 : Int32)), .val (.ref t2), .unset, .unset, .unset, .unset] [])) _
      refine own_back (fun t k => XS.aload X230.here hx rfl (hb hby cm_d14) rfl rfl k) ?_
      show OwnGo p e below (T230.setTop (mkF m 16 #[.val (.ref a1), .val (.ref a2), .val (.ref t1), .val (.int (2 : Int32)), .val (.ref t2), .unset, .unset, .unset, .unset] [(.ref t2)])) _
      obtain ⟨c231, A231, q231, S231, M231, H231, U231⟩ := id V2
      refine own_back (fun t k => X230.arraylength hx (own_hat e230 A231.1) (State.isArrayOf_alike hZ.alike A231.2.1) (g := (mkF m 16 #[.val (.ref a1), .val (.ref a2), .val (.ref t1), .val (.int (2 : Int32)), .val (.ref t2), .unset, .unset, .unset, .unset] [(.ref t2)])) rfl rfl (hb hby cm_d16) t k) ?_
      rw [len_of S231 M231]
      show OwnGo p e below (T230.setTop (mkF m 17 #[.val (.ref a1), .val (.ref a2), .val (.ref t1), .val (.int (2 : Int32)), .val (.ref t2), .unset, .unset, .unset, .unset] [(.int (1 : Int32))])) _
      refine own_back (fun t k => XS.istore X230.here hx rfl (hb hby cm_d17) rfl (l' := #[.val (.ref a1), .val (.ref a2), .val (.ref t1), .val (.int (2 : Int32)), .val (.ref t2), .val (.int (1 : Int32)), .unset, .unset, .unset]) rfl k) ?_
      show OwnGo p e below (T230.setTop (mkF m 19 #[.val (.ref a1), .val (.ref a2), .val (.ref t1), .val (.int (2 : Int32)), .val (.ref t2), .val (.int (1 : Int32)), .unset, .unset, .unset] [])) _
      refine own_back (fun t k => XS.iloadN X230.here hx rfl (hb hby cm_d19) rfl k) ?_
      show OwnGo p e below (T230.setTop (mkF m 20 #[.val (.ref a1), .val (.ref a2), .val (.ref t1), .val (.int (2 : Int32)), .val (.ref t2), .val (.int (1 : Int32)), .unset, .unset, .unset] [(.int (2 : Int32))])) _
      refine own_back (fun t k => XS.iload X230.here hx rfl (hb hby cm_d20) rfl k) ?_
      show OwnGo p e below (T230.setTop (mkF m 22 #[.val (.ref a1), .val (.ref a2), .val (.ref t1), .val (.int (2 : Int32)), .val (.ref t2), .val (.int (1 : Int32)), .unset, .unset, .unset] [(.int (1 : Int32)), (.int (2 : Int32))])) _
      refine own_back (fun t k => XS.icmpYes X230.here hx rfl (pc0 := 22) (pc' := 27) rfl (hb hby cm_d22) rfl (Jvm.Free.XT.ii_ge_t (by decide)) (by decide) (by decide) k) ?_
      show OwnGo p e below (T230.setTop (mkF m 27 #[.val (.ref a1), .val (.ref a2), .val (.ref t1), .val (.int (2 : Int32)), .val (.ref t2), .val (.int (1 : Int32)), .unset, .unset, .unset] [])) _
      refine own_back (fun t k => XS.iloadN X230.here hx rfl (hb hby cm_d27) rfl k) ?_
      show OwnGo p e below (T230.setTop (mkF m 28 #[.val (.ref a1), .val (.ref a2), .val (.ref t1), .val (.int (2 : Int32)), .val (.ref t2), .val (.int (1 : Int32)), .unset, .unset, .unset] [(.int (2 : Int32))])) _
      refine own_back (fun t k => XS.iload X230.here hx rfl (hb hby cm_d28) rfl k) ?_
      show OwnGo p e below (T230.setTop (mkF m 30 #[.val (.ref a1), .val (.ref a2), .val (.ref t1), .val (.int (2 : Int32)), .val (.ref t2), .val (.int (1 : Int32)), .unset, .unset, .unset] [(.int (1 : Int32)), (.int (2 : Int32))])) _
      refine own_back (fun t k => XS.icmpNo X230.here hx rfl (hb hby cm_d30) rfl (Jvm.Free.XT.ii_le_f (by decide)) k) ?_
      show OwnGo p e below (T230.setTop (mkF m 33 #[.val (.ref a1), .val (.ref a2), .val (.ref t1), .val (.int (2 : Int32)), .val (.ref t2), .val (.int (1 : Int32)), .unset, .unset, .unset] [])) _
      refine own_back (fun t k => XS.iconst X230.here hx rfl (hb hby cm_d33) k) ?_
      show OwnGo p e below (T230.setTop (mkF m 34 #[.val (.ref a1), .val (.ref a2), .val (.ref t1), .val (.int (2 : Int32)), .val (.ref t2), .val (.int (1 : Int32)), .unset, .unset, .unset] [(.int (1 : Int32))])) _
      refine own_retI X230 hx Bd.notSynchronized Bd.returns (hb hby cm_d34) e230 (Nat.le_of_ble_eq_true rfl) (Nat.le_of_ble_eq_true rfl) ?_
      have w1 := own_hi_eq r (own_pos hr)
      have w2 := own_hi_eq q (own_pos hq)
      have w3 := own_lo_eq r (own_pos hr)
      have w4 := own_lo_eq q (own_pos hq)
      have w5 := own_pos hr
      have w6 := own_pos hq
      have w7 := r.toInt_lt
      have w8 := q.toInt_lt
      have w9 := r.toInt32.toInt_lt
      have w10 := r.toInt32.le_toInt
      have w11 := q.toInt32.toInt_lt
      have w12 := q.toInt32.le_toInt
      simp only [Int64.lt_iff_toInt_lt, own_ii, own_mk, own_z64, own_z32] at w5 w6 u1 u2
      refine ⟨by rw [own_cmp_gt (by omega)], N0, rfl⟩
    · show OwnGo p e below (s₁.setTop (mkF m 0 #[.val (.ref a1), .val (.ref a2), .unset, .unset, .unset, .unset, .unset, .unset, .unset] [])) _
      refine own_back (fun t k => XS.aloadN X0.here hx rfl (hb hby cm_d0) rfl rfl k) ?_
      show OwnGo p e below (s₁.setTop (mkF m 1 #[.val (.ref a1), .val (.ref a2), .unset, .unset, .unset, .unset, .unset, .unset, .unset] [(.ref a1)])) _
      obtain ⟨T232, X232, e232, st232⟩ := getF X0 hx hZ hown (host := "") (Or.inl (hw _ (List.mem_of_getElem? (i := 50) rfl))) Via.refl e0 M1 (g := (mkF m 1 #[.val (.ref a1), .val (.ref a2), .unset, .unset, .unset, .unset, .unset, .unset, .unset] [(.ref a1)])) rfl rfl (hb hby cm_d1)
      refine own_back st232 ?_
      show OwnGo p e below (T232.setTop (mkF m 4 #[.val (.ref a1), .val (.ref a2), .unset, .unset, .unset, .unset, .unset, .unset, .unset] [(.ref t1)])) _
      refine own_back (fun t k => XS.astoreN X232.here hx rfl (hb hby cm_d4) rfl rfl (l' := #[.val (.ref a1), .val (.ref a2), .val (.ref t1), .unset, .unset, .unset, .unset, .unset, .unset]) rfl k) ?_
      show OwnGo p e below (T232.setTop (mkF m 5 #[.val (.ref a1), .val (.ref a2), .val (.ref t1), .unset, .unset, .unset, .unset, .unset, .unset] [])) _
      refine own_back (fun t k => XS.aloadN X232.here hx rfl (hb hby cm_d5) rfl rfl k) ?_
      show OwnGo p e below (T232.setTop (mkF m 6 #[.val (.ref a1), .val (.ref a2), .val (.ref t1), .unset, .unset, .unset, .unset, .unset, .unset] [(.ref t1)])) _
      obtain ⟨c233, A233, q233, S233, M233, H233, U233⟩ := id V1
      refine own_back (fun t k => X232.arraylength hx (own_hat e232 A233.1) (State.isArrayOf_alike hZ.alike A233.2.1) (g := (mkF m 6 #[.val (.ref a1), .val (.ref a2), .val (.ref t1), .unset, .unset, .unset, .unset, .unset, .unset] [(.ref t1)])) rfl rfl (hb hby cm_d6) t k) ?_
      rw [len_of S233 M233]
      show OwnGo p e below (T232.setTop (mkF m 7 #[.val (.ref a1), .val (.ref a2), .val (.ref t1), .unset, .unset, .unset, .unset, .unset, .unset] [(.int (2 : Int32))])) _
      refine own_back (fun t k => XS.istoreN X232.here hx rfl (hb hby cm_d7) rfl (l' := #[.val (.ref a1), .val (.ref a2), .val (.ref t1), .val (.int (2 : Int32)), .unset, .unset, .unset, .unset, .unset]) rfl k) ?_
      show OwnGo p e below (T232.setTop (mkF m 8 #[.val (.ref a1), .val (.ref a2), .val (.ref t1), .val (.int (2 : Int32)), .unset, .unset, .unset, .unset, .unset] [])) _
      refine own_back (fun t k => XS.aloadN X232.here hx rfl (hb hby cm_d8) rfl rfl k) ?_
      show OwnGo p e below (T232.setTop (mkF m 9 #[.val (.ref a1), .val (.ref a2), .val (.ref t1), .val (.int (2 : Int32)), .unset, .unset, .unset, .unset, .unset] [(.ref a2)])) _
      obtain ⟨T234, X234, e234, st234⟩ := getF X232 hx hZ hown (host := "") (Or.inl (hw _ (List.mem_of_getElem? (i := 50) rfl))) Via.refl e232 M2 (g := (mkF m 9 #[.val (.ref a1), .val (.ref a2), .val (.ref t1), .val (.int (2 : Int32)), .unset, .unset, .unset, .unset, .unset] [(.ref a2)])) rfl rfl (hb hby cm_d9)
      refine own_back st234 ?_
      show OwnGo p e below (T234.setTop (mkF m 12 #[.val (.ref a1), .val (.ref a2), .val (.ref t1), .val (.int (2 : Int32)), .unset, .unset, .unset, .unset, .unset] [(.ref t2)])) _
      refine own_back (fun t k => XS.astore X234.here hx rfl (hb hby cm_d12) rfl rfl (l' := #[.val (.ref a1), .val (.ref a2), .val (.ref t1), .val (.int (2 : Int32)), .val (.ref t2), .unset, .unset, .unset, .unset]) rfl k) ?_
      show OwnGo p e below (T234.setTop (mkF m 14 #[.val (.ref a1), .val (.ref a2), .val (.ref t1), .val (.int (2 : Int32)), .val (.ref t2), .unset, .unset, .unset, .unset] [])) _
      refine own_back (fun t k => XS.aload X234.here hx rfl (hb hby cm_d14) rfl rfl k) ?_
      show OwnGo p e below (T234.setTop (mkF m 16 #[.val (.ref a1), .val (.ref a2), .val (.ref t1), .val (.int (2 : Int32)), .val (.ref t2), .unset, .unset, .unset, .unset] [(.ref t2)])) _
      obtain ⟨c235, A235, q235, S235, M235, H235, U235⟩ := id V2
      refine own_back (fun t k => X234.arraylength hx (own_hat e234 A235.1) (State.isArrayOf_alike hZ.alike A235.2.1) (g := (mkF m 16 #[.val (.ref a1), .val (.ref a2), .val (.ref t1), .val (.int (2 : Int32)), .val (.ref t2), .unset, .unset, .unset, .unset] [(.ref t2)])) rfl rfl (hb hby cm_d16) t k) ?_
      rw [len_of S235 M235]
      show OwnGo p e below (T234.setTop (mkF m 17 #[.val (.ref a1), .val (.ref a2), .val (.ref t1), .val (.int (2 : Int32)), .val (.ref t2), .unset, .unset, .unset, .unset] [(.int (2 : Int32))])) _
      refine own_back (fun t k => XS.istore X234.here hx rfl (hb hby cm_d17) rfl (l' := #[.val (.ref a1), .val (.ref a2), .val (.ref t1), .val (.int (2 : Int32)), .val (.ref t2), .val (.int (2 : Int32)), .unset, .unset, .unset]) rfl k) ?_
      show OwnGo p e below (T234.setTop (mkF m 19 #[.val (.ref a1), .val (.ref a2), .val (.ref t1), .val (.int (2 : Int32)), .val (.ref t2), .val (.int (2 : Int32)), .unset, .unset, .unset] [])) _
      refine own_back (fun t k => XS.iloadN X234.here hx rfl (hb hby cm_d19) rfl k) ?_
      show OwnGo p e below (T234.setTop (mkF m 20 #[.val (.ref a1), .val (.ref a2), .val (.ref t1), .val (.int (2 : Int32)), .val (.ref t2), .val (.int (2 : Int32)), .unset, .unset, .unset] [(.int (2 : Int32))])) _
      refine own_back (fun t k => XS.iload X234.here hx rfl (hb hby cm_d20) rfl k) ?_
      show OwnGo p e below (T234.setTop (mkF m 22 #[.val (.ref a1), .val (.ref a2), .val (.ref t1), .val (.int (2 : Int32)), .val (.ref t2), .val (.int (2 : Int32)), .unset, .unset, .unset] [(.int (2 : Int32)), (.int (2 : Int32))])) _
      refine own_back (fun t k => XS.icmpYes X234.here hx rfl (pc0 := 22) (pc' := 27) rfl (hb hby cm_d22) rfl (Jvm.Free.XT.ii_ge_t (by decide)) (by decide) (by decide) k) ?_
      show OwnGo p e below (T234.setTop (mkF m 27 #[.val (.ref a1), .val (.ref a2), .val (.ref t1), .val (.int (2 : Int32)), .val (.ref t2), .val (.int (2 : Int32)), .unset, .unset, .unset] [])) _
      refine own_back (fun t k => XS.iloadN X234.here hx rfl (hb hby cm_d27) rfl k) ?_
      show OwnGo p e below (T234.setTop (mkF m 28 #[.val (.ref a1), .val (.ref a2), .val (.ref t1), .val (.int (2 : Int32)), .val (.ref t2), .val (.int (2 : Int32)), .unset, .unset, .unset] [(.int (2 : Int32))])) _
      refine own_back (fun t k => XS.iload X234.here hx rfl (hb hby cm_d28) rfl k) ?_
      show OwnGo p e below (T234.setTop (mkF m 30 #[.val (.ref a1), .val (.ref a2), .val (.ref t1), .val (.int (2 : Int32)), .val (.ref t2), .val (.int (2 : Int32)), .unset, .unset, .unset] [(.int (2 : Int32)), (.int (2 : Int32))])) _
      refine own_back (fun t k => XS.icmpYes X234.here hx rfl (pc0 := 30) (pc' := 35) rfl (hb hby cm_d30) rfl (Jvm.Free.XT.ii_le_t (by decide)) (by decide) (by decide) k) ?_
      show OwnGo p e below (T234.setTop (mkF m 35 #[.val (.ref a1), .val (.ref a2), .val (.ref t1), .val (.int (2 : Int32)), .val (.ref t2), .val (.int (2 : Int32)), .unset, .unset, .unset] [])) _
      refine own_back (fun t k => XS.iconst X234.here hx rfl (hb hby cm_d35) k) ?_
      show OwnGo p e below (T234.setTop (mkF m 36 #[.val (.ref a1), .val (.ref a2), .val (.ref t1), .val (.int (2 : Int32)), .val (.ref t2), .val (.int (2 : Int32)), .unset, .unset, .unset] [(.int (0 : Int32))])) _
      refine own_back (fun t k => XS.istore X234.here hx rfl (hb hby cm_d36) rfl (l' := #[.val (.ref a1), .val (.ref a2), .val (.ref t1), .val (.int (2 : Int32)), .val (.ref t2), .val (.int (2 : Int32)), .val (.int (0 : Int32)), .unset, .unset]) rfl k) ?_
      show OwnGo p e below (T234.setTop (mkF m 38 #[.val (.ref a1), .val (.ref a2), .val (.ref t1), .val (.int (2 : Int32)), .val (.ref t2), .val (.int (2 : Int32)), .val (.int (0 : Int32)), .unset, .unset] [])) _
      refine own_back (fun t k => XS.iload X234.here hx rfl (hb hby cm_d38) rfl k) ?_
      show OwnGo p e below (T234.setTop (mkF m 40 #[.val (.ref a1), .val (.ref a2), .val (.ref t1), .val (.int (2 : Int32)), .val (.ref t2), .val (.int (2 : Int32)), .val (.int (0 : Int32)), .unset, .unset] [(.int (0 : Int32))])) _
      refine own_back (fun t k => XS.iloadN X234.here hx rfl (hb hby cm_d40) rfl k) ?_
      show OwnGo p e below (T234.setTop (mkF m 41 #[.val (.ref a1), .val (.ref a2), .val (.ref t1), .val (.int (2 : Int32)), .val (.ref t2), .val (.int (2 : Int32)), .val (.int (0 : Int32)), .unset, .unset] [(.int (2 : Int32)), (.int (0 : Int32))])) _
      refine own_back (fun t k => XS.icmpNo X234.here hx rfl (hb hby cm_d41) rfl (Jvm.Free.XT.ii_ge_f (by decide)) k) ?_
      show OwnGo p e below (T234.setTop (mkF m 44 #[.val (.ref a1), .val (.ref a2), .val (.ref t1), .val (.int (2 : Int32)), .val (.ref t2), .val (.int (2 : Int32)), .val (.int (0 : Int32)), .unset, .unset] [])) _
      refine own_back (fun t k => XS.aloadN X234.here hx rfl (hb hby cm_d44) rfl rfl k) ?_
      show OwnGo p e below (T234.setTop (mkF m 45 #[.val (.ref a1), .val (.ref a2), .val (.ref t1), .val (.int (2 : Int32)), .val (.ref t2), .val (.int (2 : Int32)), .val (.int (0 : Int32)), .unset, .unset] [(.ref t1)])) _
      refine own_back (fun t k => XS.iload X234.here hx rfl (hb hby cm_d45) rfl k) ?_
      show OwnGo p e below (T234.setTop (mkF m 47 #[.val (.ref a1), .val (.ref a2), .val (.ref t1), .val (.int (2 : Int32)), .val (.ref t2), .val (.int (2 : Int32)), .val (.int (0 : Int32)), .unset, .unset] [(.int (0 : Int32)), (.ref t1)])) _
      obtain ⟨c236, A236, q236, S236, M236, H236, U236⟩ := id V1
      have ib237 : ¬ ((0 : Int32) < 0 ∨ c236.slots.size ≤ ((0 : Int32)).toNatClampNeg) := (inb_of S236 ⟨by decide, by decide⟩)
      refine own_back (fun t k => X234.iaload hx (j := (0 : Int32)) (v := (.int (own_hi r))) (own_hat e234 A236.1) (State.isArrayOf_alike hZ.alike A236.2.1) A236.2.2 ib237 (H236.at ib237 rfl) (g := (mkF m 47 #[.val (.ref a1), .val (.ref a2), .val (.ref t1), .val (.int (2 : Int32)), .val (.ref t2), .val (.int (2 : Int32)), .val (.int (0 : Int32)), .unset, .unset] [(.int (0 : Int32)), (.ref t1)])) rfl rfl (hb hby cm_d47) t k) ?_
      show OwnGo p e below (T234.setTop (mkF m 48 #[.val (.ref a1), .val (.ref a2), .val (.ref t1), .val (.int (2 : Int32)), .val (.ref t2), .val (.int (2 : Int32)), .val (.int (0 : Int32)), .unset, .unset] [(.int (own_hi r))])) _
      refine own_back (fun t k => XS.istore X234.here hx rfl (hb hby cm_d48) rfl (l' := #[.val (.ref a1), .val (.ref a2), .val (.ref t1), .val (.int (2 : Int32)), .val (.ref t2), .val (.int (2 : Int32)), .val (.int (0 : Int32)), .val (.int (own_hi r)), .unset]) rfl k) ?_
      show OwnGo p e below (T234.setTop (mkF m 50 #[.val (.ref a1), .val (.ref a2), .val (.ref t1), .val (.int (2 : Int32)), .val (.ref t2), .val (.int (2 : Int32)), .val (.int (0 : Int32)), .val (.int (own_hi r)), .unset] [])) _
      refine own_back (fun t k => XS.aload X234.here hx rfl (hb hby cm_d50) rfl rfl k) ?_
      show OwnGo p e below (T234.setTop (mkF m 52 #[.val (.ref a1), .val (.ref a2), .val (.ref t1), .val (.int (2 : Int32)), .val (.ref t2), .val (.int (2 : Int32)), .val (.int (0 : Int32)), .val (.int (own_hi r)), .unset] [(.ref t2)])) _
      refine own_back (fun t k => XS.iload X234.here hx rfl (hb hby cm_d52) rfl k) ?_
      show OwnGo p e below (T234.setTop (mkF m 54 #[.val (.ref a1), .val (.ref a2), .val (.ref t1), .val (.int (2 : Int32)), .val (.ref t2), .val (.int (2 : Int32)), .val (.int (0 : Int32)), .val (.int (own_hi r)), .unset] [(.int (0 : Int32)), (.ref t2)])) _
      obtain ⟨c238, A238, q238, S238, M238, H238, U238⟩ := id V2
      have ib239 : ¬ ((0 : Int32) < 0 ∨ c238.slots.size ≤ ((0 : Int32)).toNatClampNeg) := (inb_of S238 ⟨by decide, by decide⟩)
      refine own_back (fun t k => X234.iaload hx (j := (0 : Int32)) (v := (.int (own_hi q))) (own_hat e234 A238.1) (State.isArrayOf_alike hZ.alike A238.2.1) A238.2.2 ib239 (H238.at ib239 rfl) (g := (mkF m 54 #[.val (.ref a1), .val (.ref a2), .val (.ref t1), .val (.int (2 : Int32)), .val (.ref t2), .val (.int (2 : Int32)), .val (.int (0 : Int32)), .val (.int (own_hi r)), .unset] [(.int (0 : Int32)), (.ref t2)])) rfl rfl (hb hby cm_d54) t k) ?_
      show OwnGo p e below (T234.setTop (mkF m 55 #[.val (.ref a1), .val (.ref a2), .val (.ref t1), .val (.int (2 : Int32)), .val (.ref t2), .val (.int (2 : Int32)), .val (.int (0 : Int32)), .val (.int (own_hi r)), .unset] [(.int (own_hi q))])) _
      refine own_back (fun t k => XS.istore X234.here hx rfl (hb hby cm_d55) rfl (l' := #[.val (.ref a1), .val (.ref a2), .val (.ref t1), .val (.int (2 : Int32)), .val (.ref t2), .val (.int (2 : Int32)), .val (.int (0 : Int32)), .val (.int (own_hi r)), .val (.int (own_hi q))]) rfl k) ?_
      show OwnGo p e below (T234.setTop (mkF m 57 #[.val (.ref a1), .val (.ref a2), .val (.ref t1), .val (.int (2 : Int32)), .val (.ref t2), .val (.int (2 : Int32)), .val (.int (0 : Int32)), .val (.int (own_hi r)), .val (.int (own_hi q))] [])) _
      refine own_back (fun t k => XS.iload X234.here hx rfl (hb hby cm_d57) rfl k) ?_
      show OwnGo p e below (T234.setTop (mkF m 59 #[.val (.ref a1), .val (.ref a2), .val (.ref t1), .val (.int (2 : Int32)), .val (.ref t2), .val (.int (2 : Int32)), .val (.int (0 : Int32)), .val (.int (own_hi r)), .val (.int (own_hi q))] [(.int (own_hi r))])) _
      refine own_back (fun t k => XS.iload X234.here hx rfl (hb hby cm_d59) rfl k) ?_
      show OwnGo p e below (T234.setTop (mkF m 61 #[.val (.ref a1), .val (.ref a2), .val (.ref t1), .val (.int (2 : Int32)), .val (.ref t2), .val (.int (2 : Int32)), .val (.int (0 : Int32)), .val (.int (own_hi r)), .val (.int (own_hi q))] [(.int (own_hi q)), (.int (own_hi r))])) _
      by_cases hc61_240 : (own_hi r) = (own_hi q)
      · refine own_back (fun t k => XS.icmpYes X234.here hx rfl (pc0 := 61) (pc' := 88) rfl (hb hby cm_d61) rfl (Jvm.Free.XT.ii_eq_t hc61_240) (by decide) (by decide) k) ?_
        show OwnGo p e below (T234.setTop (mkF m 88 #[.val (.ref a1), .val (.ref a2), .val (.ref t1), .val (.int (2 : Int32)), .val (.ref t2), .val (.int (2 : Int32)), .val (.int (0 : Int32)), .val (.int (own_hi r)), .val (.int (own_hi q))] [])) _
        refine own_back (fun t k => XS.iinc X234.here hx rfl (hb hby cm_d88) rfl (l' := #[.val (.ref a1), .val (.ref a2), .val (.ref t1), .val (.int (2 : Int32)), .val (.ref t2), .val (.int (2 : Int32)), .val (.int (1 : Int32)), .val (.int (own_hi r)), .val (.int (own_hi q))]) rfl k) ?_
        show OwnGo p e below (T234.setTop (mkF m 91 #[.val (.ref a1), .val (.ref a2), .val (.ref t1), .val (.int (2 : Int32)), .val (.ref t2), .val (.int (2 : Int32)), .val (.int (1 : Int32)), .val (.int (own_hi r)), .val (.int (own_hi q))] [])) _
        refine own_back (fun t k => XS.goto X234.here hx rfl (pc0 := 91) (pc' := 38) rfl (hb hby cm_d91) (by decide) (by decide) k) ?_
        show OwnGo p e below (T234.setTop (mkF m 38 #[.val (.ref a1), .val (.ref a2), .val (.ref t1), .val (.int (2 : Int32)), .val (.ref t2), .val (.int (2 : Int32)), .val (.int (1 : Int32)), .val (.int (own_hi r)), .val (.int (own_hi q))] [])) _
        refine own_back (fun t k => XS.iload X234.here hx rfl (hb hby cm_d38) rfl k) ?_
        show OwnGo p e below (T234.setTop (mkF m 40 #[.val (.ref a1), .val (.ref a2), .val (.ref t1), .val (.int (2 : Int32)), .val (.ref t2), .val (.int (2 : Int32)), .val (.int (1 : Int32)), .val (.int (own_hi r)), .val (.int (own_hi q))] [(.int (1 : Int32))])) _
        refine own_back (fun t k => XS.iloadN X234.here hx rfl (hb hby cm_d40) rfl k) ?_
        show OwnGo p e below (T234.setTop (mkF m 41 #[.val (.ref a1), .val (.ref a2), .val (.ref t1), .val (.int (2 : Int32)), .val (.ref t2), .val (.int (2 : Int32)), .val (.int (1 : Int32)), .val (.int (own_hi r)), .val (.int (own_hi q))] [(.int (2 : Int32)), (.int (1 : Int32))])) _
        refine own_back (fun t k => XS.icmpNo X234.here hx rfl (hb hby cm_d41) rfl (Jvm.Free.XT.ii_ge_f (by decide)) k) ?_
        show OwnGo p e below (T234.setTop (mkF m 44 #[.val (.ref a1), .val (.ref a2), .val (.ref t1), .val (.int (2 : Int32)), .val (.ref t2), .val (.int (2 : Int32)), .val (.int (1 : Int32)), .val (.int (own_hi r)), .val (.int (own_hi q))] [])) _
        refine own_back (fun t k => XS.aloadN X234.here hx rfl (hb hby cm_d44) rfl rfl k) ?_
        show OwnGo p e below (T234.setTop (mkF m 45 #[.val (.ref a1), .val (.ref a2), .val (.ref t1), .val (.int (2 : Int32)), .val (.ref t2), .val (.int (2 : Int32)), .val (.int (1 : Int32)), .val (.int (own_hi r)), .val (.int (own_hi q))] [(.ref t1)])) _
        refine own_back (fun t k => XS.iload X234.here hx rfl (hb hby cm_d45) rfl k) ?_
        show OwnGo p e below (T234.setTop (mkF m 47 #[.val (.ref a1), .val (.ref a2), .val (.ref t1), .val (.int (2 : Int32)), .val (.ref t2), .val (.int (2 : Int32)), .val (.int (1 : Int32)), .val (.int (own_hi r)), .val (.int (own_hi q))] [(.int (1 : Int32)), (.ref t1)])) _
        obtain ⟨c241, A241, q241, S241, M241, H241, U241⟩ := id V1
        have ib242 : ¬ ((1 : Int32) < 0 ∨ c241.slots.size ≤ ((1 : Int32)).toNatClampNeg) := (inb_of S241 ⟨by decide, by decide⟩)
        refine own_back (fun t k => X234.iaload hx (j := (1 : Int32)) (v := (.int r.toInt32)) (own_hat e234 A241.1) (State.isArrayOf_alike hZ.alike A241.2.1) A241.2.2 ib242 (H241.at ib242 rfl) (g := (mkF m 47 #[.val (.ref a1), .val (.ref a2), .val (.ref t1), .val (.int (2 : Int32)), .val (.ref t2), .val (.int (2 : Int32)), .val (.int (1 : Int32)), .val (.int (own_hi r)), .val (.int (own_hi q))] [(.int (1 : Int32)), (.ref t1)])) rfl rfl (hb hby cm_d47) t k) ?_
        show OwnGo p e below (T234.setTop (mkF m 48 #[.val (.ref a1), .val (.ref a2), .val (.ref t1), .val (.int (2 : Int32)), .val (.ref t2), .val (.int (2 : Int32)), .val (.int (1 : Int32)), .val (.int (own_hi r)), .val (.int (own_hi q))] [(.int r.toInt32)])) _
        refine own_back (fun t k => XS.istore X234.here hx rfl (hb hby cm_d48) rfl (l' := #[.val (.ref a1), .val (.ref a2), .val (.ref t1), .val (.int (2 : Int32)), .val (.ref t2), .val (.int (2 : Int32)), .val (.int (1 : Int32)), .val (.int r.toInt32), .val (.int (own_hi q))]) rfl k) ?_
        show OwnGo p e below (T234.setTop (mkF m 50 #[.val (.ref a1), .val (.ref a2), .val (.ref t1), .val (.int (2 : Int32)), .val (.ref t2), .val (.int (2 : Int32)), .val (.int (1 : Int32)), .val (.int r.toInt32), .val (.int (own_hi q))] [])) _
        refine own_back (fun t k => XS.aload X234.here hx rfl (hb hby cm_d50) rfl rfl k) ?_
        show OwnGo p e below (T234.setTop (mkF m 52 #[.val (.ref a1), .val (.ref a2), .val (.ref t1), .val (.int (2 : Int32)), .val (.ref t2), .val (.int (2 : Int32)), .val (.int (1 : Int32)), .val (.int r.toInt32), .val (.int (own_hi q))] [(.ref t2)])) _
        refine own_back (fun t k => XS.iload X234.here hx rfl (hb hby cm_d52) rfl k) ?_
        show OwnGo p e below (T234.setTop (mkF m 54 #[.val (.ref a1), .val (.ref a2), .val (.ref t1), .val (.int (2 : Int32)), .val (.ref t2), .val (.int (2 : Int32)), .val (.int (1 : Int32)), .val (.int r.toInt32), .val (.int (own_hi q))] [(.int (1 : Int32)), (.ref t2)])) _
        obtain ⟨c243, A243, q243, S243, M243, H243, U243⟩ := id V2
        have ib244 : ¬ ((1 : Int32) < 0 ∨ c243.slots.size ≤ ((1 : Int32)).toNatClampNeg) := (inb_of S243 ⟨by decide, by decide⟩)
        refine own_back (fun t k => X234.iaload hx (j := (1 : Int32)) (v := (.int q.toInt32)) (own_hat e234 A243.1) (State.isArrayOf_alike hZ.alike A243.2.1) A243.2.2 ib244 (H243.at ib244 rfl) (g := (mkF m 54 #[.val (.ref a1), .val (.ref a2), .val (.ref t1), .val (.int (2 : Int32)), .val (.ref t2), .val (.int (2 : Int32)), .val (.int (1 : Int32)), .val (.int r.toInt32), .val (.int (own_hi q))] [(.int (1 : Int32)), (.ref t2)])) rfl rfl (hb hby cm_d54) t k) ?_
        show OwnGo p e below (T234.setTop (mkF m 55 #[.val (.ref a1), .val (.ref a2), .val (.ref t1), .val (.int (2 : Int32)), .val (.ref t2), .val (.int (2 : Int32)), .val (.int (1 : Int32)), .val (.int r.toInt32), .val (.int (own_hi q))] [(.int q.toInt32)])) _
        refine own_back (fun t k => XS.istore X234.here hx rfl (hb hby cm_d55) rfl (l' := #[.val (.ref a1), .val (.ref a2), .val (.ref t1), .val (.int (2 : Int32)), .val (.ref t2), .val (.int (2 : Int32)), .val (.int (1 : Int32)), .val (.int r.toInt32), .val (.int q.toInt32)]) rfl k) ?_
        show OwnGo p e below (T234.setTop (mkF m 57 #[.val (.ref a1), .val (.ref a2), .val (.ref t1), .val (.int (2 : Int32)), .val (.ref t2), .val (.int (2 : Int32)), .val (.int (1 : Int32)), .val (.int r.toInt32), .val (.int q.toInt32)] [])) _
        refine own_back (fun t k => XS.iload X234.here hx rfl (hb hby cm_d57) rfl k) ?_
        show OwnGo p e below (T234.setTop (mkF m 59 #[.val (.ref a1), .val (.ref a2), .val (.ref t1), .val (.int (2 : Int32)), .val (.ref t2), .val (.int (2 : Int32)), .val (.int (1 : Int32)), .val (.int r.toInt32), .val (.int q.toInt32)] [(.int r.toInt32)])) _
        refine own_back (fun t k => XS.iload X234.here hx rfl (hb hby cm_d59) rfl k) ?_
        show OwnGo p e below (T234.setTop (mkF m 61 #[.val (.ref a1), .val (.ref a2), .val (.ref t1), .val (.int (2 : Int32)), .val (.ref t2), .val (.int (2 : Int32)), .val (.int (1 : Int32)), .val (.int r.toInt32), .val (.int q.toInt32)] [(.int q.toInt32), (.int r.toInt32)])) _
        by_cases hc61_245 : r.toInt32 = q.toInt32
        · refine own_back (fun t k => XS.icmpYes X234.here hx rfl (pc0 := 61) (pc' := 88) rfl (hb hby cm_d61) rfl (Jvm.Free.XT.ii_eq_t hc61_245) (by decide) (by decide) k) ?_
          show OwnGo p e below (T234.setTop (mkF m 88 #[.val (.ref a1), .val (.ref a2), .val (.ref t1), .val (.int (2 : Int32)), .val (.ref t2), .val (.int (2 : Int32)), .val (.int (1 : Int32)), .val (.int r.toInt32), .val (.int q.toInt32)] [])) _
          refine own_back (fun t k => XS.iinc X234.here hx rfl (hb hby cm_d88) rfl (l' := #[.val (.ref a1), .val (.ref a2), .val (.ref t1), .val (.int (2 : Int32)), .val (.ref t2), .val (.int (2 : Int32)), .val (.int (2 : Int32)), .val (.int r.toInt32), .val (.int q.toInt32)]) rfl k) ?_
          show OwnGo p e below (T234.setTop (mkF m 91 #[.val (.ref a1), .val (.ref a2), .val (.ref t1), .val (.int (2 : Int32)), .val (.ref t2), .val (.int (2 : Int32)), .val (.int (2 : Int32)), .val (.int r.toInt32), .val (.int q.toInt32)] [])) _
          refine own_back (fun t k => XS.goto X234.here hx rfl (pc0 := 91) (pc' := 38) rfl (hb hby cm_d91) (by decide) (by decide) k) ?_
          show OwnGo p e below (T234.setTop (mkF m 38 #[.val (.ref a1), .val (.ref a2), .val (.ref t1), .val (.int (2 : Int32)), .val (.ref t2), .val (.int (2 : Int32)), .val (.int (2 : Int32)), .val (.int r.toInt32), .val (.int q.toInt32)] [])) _
          refine own_back (fun t k => XS.iload X234.here hx rfl (hb hby cm_d38) rfl k) ?_
          show OwnGo p e below (T234.setTop (mkF m 40 #[.val (.ref a1), .val (.ref a2), .val (.ref t1), .val (.int (2 : Int32)), .val (.ref t2), .val (.int (2 : Int32)), .val (.int (2 : Int32)), .val (.int r.toInt32), .val (.int q.toInt32)] [(.int (2 : Int32))])) _
          refine own_back (fun t k => XS.iloadN X234.here hx rfl (hb hby cm_d40) rfl k) ?_
          show OwnGo p e below (T234.setTop (mkF m 41 #[.val (.ref a1), .val (.ref a2), .val (.ref t1), .val (.int (2 : Int32)), .val (.ref t2), .val (.int (2 : Int32)), .val (.int (2 : Int32)), .val (.int r.toInt32), .val (.int q.toInt32)] [(.int (2 : Int32)), (.int (2 : Int32))])) _
          refine own_back (fun t k => XS.icmpYes X234.here hx rfl (pc0 := 41) (pc' := 94) rfl (hb hby cm_d41) rfl (Jvm.Free.XT.ii_ge_t (by decide)) (by decide) (by decide) k) ?_
          show OwnGo p e below (T234.setTop (mkF m 94 #[.val (.ref a1), .val (.ref a2), .val (.ref t1), .val (.int (2 : Int32)), .val (.ref t2), .val (.int (2 : Int32)), .val (.int (2 : Int32)), .val (.int r.toInt32), .val (.int q.toInt32)] [])) _
          refine own_back (fun t k => XS.iconst X234.here hx rfl (hb hby cm_d94) k) ?_
          show OwnGo p e below (T234.setTop (mkF m 95 #[.val (.ref a1), .val (.ref a2), .val (.ref t1), .val (.int (2 : Int32)), .val (.ref t2), .val (.int (2 : Int32)), .val (.int (2 : Int32)), .val (.int r.toInt32), .val (.int q.toInt32)] [(.int (0 : Int32))])) _
          refine own_retI X234 hx Bd.notSynchronized Bd.returns (hb hby cm_d95) e234 (Nat.le_of_ble_eq_true rfl) (Nat.le_of_ble_eq_true rfl) ?_
          have w1 := own_hi_eq r (own_pos hr)
          have w2 := own_hi_eq q (own_pos hq)
          have w3 := own_lo_eq r (own_pos hr)
          have w4 := own_lo_eq q (own_pos hq)
          have w5 := own_pos hr
          have w6 := own_pos hq
          have w7 := r.toInt_lt
          have w8 := q.toInt_lt
          have w9 := r.toInt32.toInt_lt
          have w10 := r.toInt32.le_toInt
          have w11 := q.toInt32.toInt_lt
          have w12 := q.toInt32.le_toInt
          simp only [Int64.lt_iff_toInt_lt, own_ii, own_mk, own_z64, own_z32] at w5 w6 u1 u2 hc61_240 hc61_245
          refine ⟨by rw [own_cmp_eq (by omega)], N0, rfl⟩
        · refine own_back (fun t k => XS.icmpNo X234.here hx rfl (hb hby cm_d61) rfl (Jvm.Free.XT.ii_eq_f hc61_245) k) ?_
          show OwnGo p e below (T234.setTop (mkF m 64 #[.val (.ref a1), .val (.ref a2), .val (.ref t1), .val (.int (2 : Int32)), .val (.ref t2), .val (.int (2 : Int32)), .val (.int (1 : Int32)), .val (.int r.toInt32), .val (.int q.toInt32)] [])) _
          refine own_back (fun t k => XS.iload X234.here hx rfl (hb hby cm_d64) rfl k) ?_
          show OwnGo p e below (T234.setTop (mkF m 66 #[.val (.ref a1), .val (.ref a2), .val (.ref t1), .val (.int (2 : Int32)), .val (.ref t2), .val (.int (2 : Int32)), .val (.int (1 : Int32)), .val (.int r.toInt32), .val (.int q.toInt32)] [(.int r.toInt32)])) _
          refine own_back (fun t k => XS.i2l X234.here hx rfl (hb hby cm_d66) rfl k) ?_
          show OwnGo p e below (T234.setTop (mkF m 67 #[.val (.ref a1), .val (.ref a2), .val (.ref t1), .val (.int (2 : Int32)), .val (.ref t2), .val (.int (2 : Int32)), .val (.int (1 : Int32)), .val (.int r.toInt32), .val (.int q.toInt32)] [(.long r.toInt32.toInt64)])) _
          refine own_back (fun t k => X234.ldc2Long hx hown (mvT hZ (hw _ (List.mem_of_getElem? (i := 52) rfl))) (g := (mkF m 67 #[.val (.ref a1), .val (.ref a2), .val (.ref t1), .val (.int (2 : Int32)), .val (.ref t2), .val (.int (2 : Int32)), .val (.int (1 : Int32)), .val (.int r.toInt32), .val (.int q.toInt32)] [(.long r.toInt32.toInt64)])) rfl (hb hby cm_d67) t k) ?_
          show OwnGo p e below (T234.setTop (mkF m 70 #[.val (.ref a1), .val (.ref a2), .val (.ref t1), .val (.int (2 : Int32)), .val (.ref t2), .val (.int (2 : Int32)), .val (.int (1 : Int32)), .val (.int r.toInt32), .val (.int q.toInt32)] [(.long (4294967295 : Int64)), (.long r.toInt32.toInt64)])) _
          refine own_back (fun t k => XS.land X234.here hx rfl (hb hby cm_d70) rfl k) ?_
          show OwnGo p e below (T234.setTop (mkF m 71 #[.val (.ref a1), .val (.ref a2), .val (.ref t1), .val (.int (2 : Int32)), .val (.ref t2), .val (.int (2 : Int32)), .val (.int (1 : Int32)), .val (.int r.toInt32), .val (.int q.toInt32)] [(.long (r.toInt32.toInt64 &&& (4294967295 : Int64)))])) _
          refine own_back (fun t k => XS.iload X234.here hx rfl (hb hby cm_d71) rfl k) ?_
          show OwnGo p e below (T234.setTop (mkF m 73 #[.val (.ref a1), .val (.ref a2), .val (.ref t1), .val (.int (2 : Int32)), .val (.ref t2), .val (.int (2 : Int32)), .val (.int (1 : Int32)), .val (.int r.toInt32), .val (.int q.toInt32)] [(.int q.toInt32), (.long (r.toInt32.toInt64 &&& (4294967295 : Int64)))])) _
          refine own_back (fun t k => XS.i2l X234.here hx rfl (hb hby cm_d73) rfl k) ?_
          show OwnGo p e below (T234.setTop (mkF m 74 #[.val (.ref a1), .val (.ref a2), .val (.ref t1), .val (.int (2 : Int32)), .val (.ref t2), .val (.int (2 : Int32)), .val (.int (1 : Int32)), .val (.int r.toInt32), .val (.int q.toInt32)] [(.long q.toInt32.toInt64), (.long (r.toInt32.toInt64 &&& (4294967295 : Int64)))])) _
          refine own_back (fun t k => X234.ldc2Long hx hown (mvT hZ (hw _ (List.mem_of_getElem? (i := 52) rfl))) (g := (mkF m 74 #[.val (.ref a1), .val (.ref a2), .val (.ref t1), .val (.int (2 : Int32)), .val (.ref t2), .val (.int (2 : Int32)), .val (.int (1 : Int32)), .val (.int r.toInt32), .val (.int q.toInt32)] [(.long q.toInt32.toInt64), (.long (r.toInt32.toInt64 &&& (4294967295 : Int64)))])) rfl (hb hby cm_d74) t k) ?_
          show OwnGo p e below (T234.setTop (mkF m 77 #[.val (.ref a1), .val (.ref a2), .val (.ref t1), .val (.int (2 : Int32)), .val (.ref t2), .val (.int (2 : Int32)), .val (.int (1 : Int32)), .val (.int r.toInt32), .val (.int q.toInt32)] [(.long (4294967295 : Int64)), (.long q.toInt32.toInt64), (.long (r.toInt32.toInt64 &&& (4294967295 : Int64)))])) _
          refine own_back (fun t k => XS.land X234.here hx rfl (hb hby cm_d77) rfl k) ?_
          show OwnGo p e below (T234.setTop (mkF m 78 #[.val (.ref a1), .val (.ref a2), .val (.ref t1), .val (.int (2 : Int32)), .val (.ref t2), .val (.int (2 : Int32)), .val (.int (1 : Int32)), .val (.int r.toInt32), .val (.int q.toInt32)] [(.long (q.toInt32.toInt64 &&& (4294967295 : Int64))), (.long (r.toInt32.toInt64 &&& (4294967295 : Int64)))])) _
          refine own_back (fun t k => XT.lcmp X234.here hx rfl (hb hby cm_d78) rfl k) ?_
          show OwnGo p e below (T234.setTop (mkF m 79 #[.val (.ref a1), .val (.ref a2), .val (.ref t1), .val (.int (2 : Int32)), .val (.ref t2), .val (.int (2 : Int32)), .val (.int (1 : Int32)), .val (.int r.toInt32), .val (.int q.toInt32)] [(.int (XT.cmpL (r.toInt32.toInt64 &&& (4294967295 : Int64)) (q.toInt32.toInt64 &&& (4294967295 : Int64))))])) _
          by_cases hc79_246 : (r.toInt32.toInt64 &&& (4294967295 : Int64)) < (q.toInt32.toInt64 &&& (4294967295 : Int64))
          · refine own_back (fun t k => XS.ifNo X234.here hx rfl (hb hby cm_d79) rfl (Jvm.Free.XT.ll_ge_f hc79_246) k) ?_
            show OwnGo p e below (T234.setTop (mkF m 82 #[.val (.ref a1), .val (.ref a2), .val (.ref t1), .val (.int (2 : Int32)), .val (.ref t2), .val (.int (2 : Int32)), .val (.int (1 : Int32)), .val (.int r.toInt32), .val (.int q.toInt32)] [])) _
            refine own_back (fun t k => XS.iconst X234.here hx rfl (hb hby cm_d82) k) ?_
            show OwnGo p e below (T234.setTop (mkF m 83 #[.val (.ref a1), .val (.ref a2), .val (.ref t1), .val (.int (2 : Int32)), .val (.ref t2), .val (.int (2 : Int32)), .val (.int (1 : Int32)), .val (.int r.toInt32), .val (.int q.toInt32)] [(.int (-1 : Int32))])) _
            refine own_back (fun t k => XS.goto X234.here hx rfl (pc0 := 83) (pc' := 87) rfl (hb hby cm_d83) (by decide) (by decide) k) ?_
            show OwnGo p e below (T234.setTop (mkF m 87 #[.val (.ref a1), .val (.ref a2), .val (.ref t1), .val (.int (2 : Int32)), .val (.ref t2), .val (.int (2 : Int32)), .val (.int (1 : Int32)), .val (.int r.toInt32), .val (.int q.toInt32)] [(.int (-1 : Int32))])) _
            refine own_retI X234 hx Bd.notSynchronized Bd.returns (hb hby cm_d87) e234 (Nat.le_of_ble_eq_true rfl) (Nat.le_of_ble_eq_true rfl) ?_
            have w1 := own_hi_eq r (own_pos hr)
            have w2 := own_hi_eq q (own_pos hq)
            have w3 := own_lo_eq r (own_pos hr)
            have w4 := own_lo_eq q (own_pos hq)
            have w5 := own_pos hr
            have w6 := own_pos hq
            have w7 := r.toInt_lt
            have w8 := q.toInt_lt
            have w9 := r.toInt32.toInt_lt
            have w10 := r.toInt32.le_toInt
            have w11 := q.toInt32.toInt_lt
            have w12 := q.toInt32.le_toInt
            simp only [Int64.lt_iff_toInt_lt, own_ii, own_mk, own_z64, own_z32] at w5 w6 u1 u2 hc61_240 hc61_245 hc79_246
            refine ⟨by rw [own_cmp_lt (by omega)], N0, rfl⟩
          · refine own_back (fun t k => XS.ifYes X234.here hx rfl (pc0 := 79) (pc' := 86) rfl (hb hby cm_d79) rfl (Jvm.Free.XT.ll_ge_t hc79_246) (by decide) (by decide) k) ?_
            show OwnGo p e below (T234.setTop (mkF m 86 #[.val (.ref a1), .val (.ref a2), .val (.ref t1), .val (.int (2 : Int32)), .val (.ref t2), .val (.int (2 : Int32)), .val (.int (1 : Int32)), .val (.int r.toInt32), .val (.int q.toInt32)] [])) _
            refine own_back (fun t k => XS.iconst X234.here hx rfl (hb hby cm_d86) k) ?_
            show OwnGo p e below (T234.setTop (mkF m 87 #[.val (.ref a1), .val (.ref a2), .val (.ref t1), .val (.int (2 : Int32)), .val (.ref t2), .val (.int (2 : Int32)), .val (.int (1 : Int32)), .val (.int r.toInt32), .val (.int q.toInt32)] [(.int (1 : Int32))])) _
            refine own_retI X234 hx Bd.notSynchronized Bd.returns (hb hby cm_d87) e234 (Nat.le_of_ble_eq_true rfl) (Nat.le_of_ble_eq_true rfl) ?_
            have w1 := own_hi_eq r (own_pos hr)
            have w2 := own_hi_eq q (own_pos hq)
            have w3 := own_lo_eq r (own_pos hr)
            have w4 := own_lo_eq q (own_pos hq)
            have w5 := own_pos hr
            have w6 := own_pos hq
            have w7 := r.toInt_lt
            have w8 := q.toInt_lt
            have w9 := r.toInt32.toInt_lt
            have w10 := r.toInt32.le_toInt
            have w11 := q.toInt32.toInt_lt
            have w12 := q.toInt32.le_toInt
            simp only [Int64.lt_iff_toInt_lt, own_ii, own_mk, own_z64, own_z32] at w5 w6 u1 u2 hc61_240 hc61_245 hc79_246
            refine ⟨by rw [own_cmp_gt (by omega)], N0, rfl⟩
      · refine own_back (fun t k => XS.icmpNo X234.here hx rfl (hb hby cm_d61) rfl (Jvm.Free.XT.ii_eq_f hc61_240) k) ?_
        show OwnGo p e below (T234.setTop (mkF m 64 #[.val (.ref a1), .val (.ref a2), .val (.ref t1), .val (.int (2 : Int32)), .val (.ref t2), .val (.int (2 : Int32)), .val (.int (0 : Int32)), .val (.int (own_hi r)), .val (.int (own_hi q))] [])) _
        refine own_back (fun t k => XS.iload X234.here hx rfl (hb hby cm_d64) rfl k) ?_
        show OwnGo p e below (T234.setTop (mkF m 66 #[.val (.ref a1), .val (.ref a2), .val (.ref t1), .val (.int (2 : Int32)), .val (.ref t2), .val (.int (2 : Int32)), .val (.int (0 : Int32)), .val (.int (own_hi r)), .val (.int (own_hi q))] [(.int (own_hi r))])) _
        refine own_back (fun t k => XS.i2l X234.here hx rfl (hb hby cm_d66) rfl k) ?_
        show OwnGo p e below (T234.setTop (mkF m 67 #[.val (.ref a1), .val (.ref a2), .val (.ref t1), .val (.int (2 : Int32)), .val (.ref t2), .val (.int (2 : Int32)), .val (.int (0 : Int32)), .val (.int (own_hi r)), .val (.int (own_hi q))] [(.long (own_hi r).toInt64)])) _
        refine own_back (fun t k => X234.ldc2Long hx hown (mvT hZ (hw _ (List.mem_of_getElem? (i := 52) rfl))) (g := (mkF m 67 #[.val (.ref a1), .val (.ref a2), .val (.ref t1), .val (.int (2 : Int32)), .val (.ref t2), .val (.int (2 : Int32)), .val (.int (0 : Int32)), .val (.int (own_hi r)), .val (.int (own_hi q))] [(.long (own_hi r).toInt64)])) rfl (hb hby cm_d67) t k) ?_
        show OwnGo p e below (T234.setTop (mkF m 70 #[.val (.ref a1), .val (.ref a2), .val (.ref t1), .val (.int (2 : Int32)), .val (.ref t2), .val (.int (2 : Int32)), .val (.int (0 : Int32)), .val (.int (own_hi r)), .val (.int (own_hi q))] [(.long (4294967295 : Int64)), (.long (own_hi r).toInt64)])) _
        refine own_back (fun t k => XS.land X234.here hx rfl (hb hby cm_d70) rfl k) ?_
        show OwnGo p e below (T234.setTop (mkF m 71 #[.val (.ref a1), .val (.ref a2), .val (.ref t1), .val (.int (2 : Int32)), .val (.ref t2), .val (.int (2 : Int32)), .val (.int (0 : Int32)), .val (.int (own_hi r)), .val (.int (own_hi q))] [(.long ((own_hi r).toInt64 &&& (4294967295 : Int64)))])) _
        refine own_back (fun t k => XS.iload X234.here hx rfl (hb hby cm_d71) rfl k) ?_
        show OwnGo p e below (T234.setTop (mkF m 73 #[.val (.ref a1), .val (.ref a2), .val (.ref t1), .val (.int (2 : Int32)), .val (.ref t2), .val (.int (2 : Int32)), .val (.int (0 : Int32)), .val (.int (own_hi r)), .val (.int (own_hi q))] [(.int (own_hi q)), (.long ((own_hi r).toInt64 &&& (4294967295 : Int64)))])) _
        refine own_back (fun t k => XS.i2l X234.here hx rfl (hb hby cm_d73) rfl k) ?_
        show OwnGo p e below (T234.setTop (mkF m 74 #[.val (.ref a1), .val (.ref a2), .val (.ref t1), .val (.int (2 : Int32)), .val (.ref t2), .val (.int (2 : Int32)), .val (.int (0 : Int32)), .val (.int (own_hi r)), .val (.int (own_hi q))] [(.long (own_hi q).toInt64), (.long ((own_hi r).toInt64 &&& (4294967295 : Int64)))])) _
        refine own_back (fun t k => X234.ldc2Long hx hown (mvT hZ (hw _ (List.mem_of_getElem? (i := 52) rfl))) (g := (mkF m 74 #[.val (.ref a1), .val (.ref a2), .val (.ref t1), .val (.int (2 : Int32)), .val (.ref t2), .val (.int (2 : Int32)), .val (.int (0 : Int32)), .val (.int (own_hi r)), .val (.int (own_hi q))] [(.long (own_hi q).toInt64), (.long ((own_hi r).toInt64 &&& (4294967295 : Int64)))])) rfl (hb hby cm_d74) t k) ?_
        show OwnGo p e below (T234.setTop (mkF m 77 #[.val (.ref a1), .val (.ref a2), .val (.ref t1), .val (.int (2 : Int32)), .val (.ref t2), .val (.int (2 : Int32)), .val (.int (0 : Int32)), .val (.int (own_hi r)), .val (.int (own_hi q))] [(.long (4294967295 : Int64)), (.long (own_hi q).toInt64), (.long ((own_hi r).toInt64 &&& (4294967295 : Int64)))])) _
        refine own_back (fun t k => XS.land X234.here hx rfl (hb hby cm_d77) rfl k) ?_
        show OwnGo p e below (T234.setTop (mkF m 78 #[.val (.ref a1), .val (.ref a2), .val (.ref t1), .val (.int (2 : Int32)), .val (.ref t2), .val (.int (2 : Int32)), .val (.int (0 : Int32)), .val (.int (own_hi r)), .val (.int (own_hi q))] [(.long ((own_hi q).toInt64 &&& (4294967295 : Int64))), (.long ((own_hi r).toInt64 &&& (4294967295 : Int64)))])) _
        refine own_back (fun t k => XT.lcmp X234.here hx rfl (hb hby cm_d78) rfl k) ?_
        show OwnGo p e below (T234.setTop (mkF m 79 #[.val (.ref a1), .val (.ref a2), .val (.ref t1), .val (.int (2 : Int32)), .val (.ref t2), .val (.int (2 : Int32)), .val (.int (0 : Int32)), .val (.int (own_hi r)), .val (.int (own_hi q))] [(.int (XT.cmpL ((own_hi r).toInt64 &&& (4294967295 : Int64)) ((own_hi q).toInt64 &&& (4294967295 : Int64))))])) _
        by_cases hc79_247 : ((own_hi r).toInt64 &&& (4294967295 : Int64)) < ((own_hi q).toInt64 &&& (4294967295 : Int64))
        · refine own_back (fun t k => XS.ifNo X234.here hx rfl (hb hby cm_d79) rfl (Jvm.Free.XT.ll_ge_f hc79_247) k) ?_
          show OwnGo p e below (T234.setTop (mkF m 82 #[.val (.ref a1), .val (.ref a2), .val (.ref t1), .val (.int (2 : Int32)), .val (.ref t2), .val (.int (2 : Int32)), .val (.int (0 : Int32)), .val (.int (own_hi r)), .val (.int (own_hi q))] [])) _
          refine own_back (fun t k => XS.iconst X234.here hx rfl (hb hby cm_d82) k) ?_
          show OwnGo p e below (T234.setTop (mkF m 83 #[.val (.ref a1), .val (.ref a2), .val (.ref t1), .val (.int (2 : Int32)), .val (.ref t2), .val (.int (2 : Int32)), .val (.int (0 : Int32)), .val (.int (own_hi r)), .val (.int (own_hi q))] [(.int (-1 : Int32))])) _
          refine own_back (fun t k => XS.goto X234.here hx rfl (pc0 := 83) (pc' := 87) rfl (hb hby cm_d83) (by decide) (by decide) k) ?_
          show OwnGo p e below (T234.setTop (mkF m 87 #[.val (.ref a1), .val (.ref a2), .val (.ref t1), .val (.int (2 : Int32)), .val (.ref t2), .val (.int (2 : Int32)), .val (.int (0 : Int32)), .val (.int (own_hi r)), .val (.int (own_hi q))] [(.int (-1 : Int32))])) _
          refine own_retI X234 hx Bd.notSynchronized Bd.returns (hb hby cm_d87) e234 (Nat.le_of_ble_eq_true rfl) (Nat.le_of_ble_eq_true rfl) ?_
          have w1 := own_hi_eq r (own_pos hr)
          have w2 := own_hi_eq q (own_pos hq)
          have w3 := own_lo_eq r (own_pos hr)
          have w4 := own_lo_eq q (own_pos hq)
          have w5 := own_pos hr
          have w6 := own_pos hq
          have w7 := r.toInt_lt
          have w8 := q.toInt_lt
          have w9 := r.toInt32.toInt_lt
          have w10 := r.toInt32.le_toInt
          have w11 := q.toInt32.toInt_lt
          have w12 := q.toInt32.le_toInt
          simp only [Int64.lt_iff_toInt_lt, own_ii, own_mk, own_z64, own_z32] at w5 w6 u1 u2 hc61_240 hc79_247
          refine ⟨by rw [own_cmp_lt (by omega)], N0, rfl⟩
        · refine own_back (fun t k => XS.ifYes X234.here hx rfl (pc0 := 79) (pc' := 86) rfl (hb hby cm_d79) rfl (Jvm.Free.XT.ll_ge_t hc79_247) (by decide) (by decide) k) ?_
          show OwnGo p e below (T234.setTop (mkF m 86 #[.val (.ref a1), .val (.ref a2), .val (.ref t1), .val (.int (2 : Int32)), .val (.ref t2), .val (.int (2 : Int32)), .val (.int (0 : Int32)), .val (.int (own_hi r)), .val (.int (own_hi q))] [])) _
          refine own_back (fun t k => XS.iconst X234.here hx rfl (hb hby cm_d86) k) ?_
          show OwnGo p e below (T234.setTop (mkF m 87 #[.val (.ref a1), .val (.ref a2), .val (.ref t1), .val (.int (2 : Int32)), .val (.ref t2), .val (.int (2 : Int32)), .val (.int (0 : Int32)), .val (.int (own_hi r)), .val (.int (own_hi q))] [(.int (1 : Int32))])) _
          refine own_retI X234 hx Bd.notSynchronized Bd.returns (hb hby cm_d87) e234 (Nat.le_of_ble_eq_true rfl) (Nat.le_of_ble_eq_true rfl) ?_
          have w1 := own_hi_eq r (own_pos hr)
          have w2 := own_hi_eq q (own_pos hq)
          have w3 := own_lo_eq r (own_pos hr)
          have w4 := own_lo_eq q (own_pos hq)
          have w5 := own_pos hr
          have w6 := own_pos hq
          have w7 := r.toInt_lt
          have w8 := q.toInt_lt
          have w9 := r.toInt32.toInt_lt
          have w10 := r.toInt32.le_toInt
          have w11 := q.toInt32.toInt_lt
          have w12 := q.toInt32.le_toInt
          simp only [Int64.lt_iff_toInt_lt, own_ii, own_mk, own_z64, own_z32] at w5 w6 u1 u2 hc61_240 hc79_247
          refine ⟨by rw [own_cmp_gt (by omega)], N0, rfl⟩
theorem OwnBig.sig {Z : State} {h : Heap} {a : Addr} {r : Int64} (F : OwnBig Z h a r) : Fld Z h a "java/math/BigInteger" "signum" "I" (.int (if r = 0 then 0 else 1)) := by
  obtain ⟨t, k, n, vs, h1, h2, h3, h4, h5⟩ := F
  exact h2
theorem own_0lt {r q : Int64} (h : r = 0) (n : ¬ q < 0) (h2 : ¬ q = 0) : r.toInt < q.toInt := by
  have := own_gt0 n h2
  rw [Int64.lt_iff_toInt_lt] at this
  rw [h]; exact this
theorem ct_d0 : decode jdk_2097_method_121_code 0 = .ok (.aload_n 0, 1) := by decide +kernel
theorem ct_d1 : decode jdk_2097_method_121_code 1 = .ok (.getfield 32, 3) := by decide +kernel
theorem ct_d4 : decode jdk_2097_method_121_code 4 = .ok (.aload_n 1, 1) := by decide +kernel
theorem ct_d5 : decode jdk_2097_method_121_code 5 = .ok (.getfield 32, 3) := by decide +kernel
theorem ct_d8 : decode jdk_2097_method_121_code 8 = .ok (.if_icmp .ne 50, 3) := by decide +kernel
theorem ct_d11 : decode jdk_2097_method_121_code 11 = .ok (.aload_n 0, 1) := by decide +kernel
theorem ct_d12 : decode jdk_2097_method_121_code 12 = .ok (.getfield 32, 3) := by decide +kernel
theorem ct_d15 : decode jdk_2097_method_121_code 15 = .ok (.lookupswitch 41 #[(-1, 33), (1, 25)], 25) := by decide +kernel
theorem ct_d40 : decode jdk_2097_method_121_code 40 = .ok (.aload_n 0, 1) := by decide +kernel
theorem ct_d41 : decode jdk_2097_method_121_code 41 = .ok (.aload_n 1, 1) := by decide +kernel
theorem ct_d42 : decode jdk_2097_method_121_code 42 = .ok (.invokevirtual 365, 3) := by decide +kernel
theorem ct_d45 : decode jdk_2097_method_121_code 45 = .ok (.goto 12, 3) := by decide +kernel
theorem ct_d56 : decode jdk_2097_method_121_code 56 = .ok (.iconst 0, 1) := by decide +kernel
theorem ct_d57 : decode jdk_2097_method_121_code 57 = .ok (.ireturn, 1) := by decide +kernel
theorem ct_d58 : decode jdk_2097_method_121_code 58 = .ok (.aload_n 0, 1) := by decide +kernel
theorem ct_d59 : decode jdk_2097_method_121_code 59 = .ok (.getfield 32, 3) := by decide +kernel
theorem ct_d62 : decode jdk_2097_method_121_code 62 = .ok (.aload_n 1, 1) := by decide +kernel
theorem ct_d63 : decode jdk_2097_method_121_code 63 = .ok (.getfield 32, 3) := by decide +kernel
theorem ct_d66 : decode jdk_2097_method_121_code 66 = .ok (.if_icmp .le 7, 3) := by decide +kernel
theorem ct_d69 : decode jdk_2097_method_121_code 69 = .ok (.iconst 1, 1) := by decide +kernel
theorem ct_d70 : decode jdk_2097_method_121_code 70 = .ok (.goto 4, 3) := by decide +kernel
theorem ct_d73 : decode jdk_2097_method_121_code 73 = .ok (.iconst (-1), 1) := by decide +kernel
theorem ct_d74 : decode jdk_2097_method_121_code 74 = .ok (.ireturn, 1) := by decide +kernel
theorem ct_pn : plainName "java/math/BigInteger" = true := by first | (simp [plainName, overriddenIn]; done) | decide +kernel
theorem ct_pd0 : parseMethodDescriptor "(Ljava/math/BigInteger;)I" = some ⟨[(.object "java/math/BigInteger")], some .int⟩ := by decide +kernel
theorem ct_ef (m : MethodId) (x0 : Addr) (x1 : Addr) : entryFrame m #[(.ref x0), (.ref x1)] 2 = mkF m 0 #[.val (.ref x0), .val (.ref x1)] [] := by first | (simp [entryFrame, mkF, argsToLocals, Value.category]; done) | rfl
set_option maxRecDepth 65536 in
set_option maxHeartbeats 40000000 in
theorem rm_ct (l : Launch) (Z : State) (a0 : Array Value) (hw : ∀ d ∈ tables_1, d.before a0 Z = true) (ws : List Jvm.Cond) (a1 : Addr) (a2 : Addr) (r : Int64) (q : Int64) (h0 : Heap) (n0 : Nat) (Z0 : n0 ≤ h0.size) (B1 : OwnBig Z h0 a1 r) (B2 : OwnBig Z h0 a2 q) (nr : ¬ r < 0) (nq : ¬ q < 0) :
    MetFree l (⟨"java/math/BigInteger", "compareTo", "(Ljava/math/BigInteger;)I"⟩ : MethodName) (head1 (Jvm.Cond.code (⟨"java/math/BigInteger", "compareTo", "(Ljava/math/BigInteger;)I"⟩ : MethodName) jdk_2097_method_121_code 2 (some .int) :: ws) ({ frames := 1, cells := 0, slots := 0, locals := 30 } : Room)) (fun a U => a = #[(.ref a1), (.ref a2)] ∧ Z.Warmed39 U.vm ∧ U.heap = h0) (fun _ _ _ _ _ => True) (fun _ U o U' => OwnEnd U (fun v h L => v = some (.int (own_cmp r q)) ∧ Fr n0 L ∧ h = h0) ({ frames := 1, cells := 0, slots := 0, locals := 30 } : Room).cells ({ frames := 1, cells := 0, slots := 0, locals := 30 } : Room).slots o U') := by
  refine MetFree.of_bodySF (plainFor_of_name ct_pn) hisR ?_
  intro p e s m args below meth c s₁ Bd hml0 hP hK
  obtain ⟨rfl, hZ, hh⟩ := hP
  have hx := Bd.exec
  have hby := Bd.bytes
  have hml : c.maxLocals = 2 := hml0
  have hown : s.vm.findClass "java/math/BigInteger" = some m.cls := findClass_of_methodNamed Bd.named
  have hnm := (name_of_methodNamed Bd.named Bd.method).1
  have X0 : Stand p l e ({ frames := 1, cells := 0, slots := 0, locals := 30 } : Room) s m #[(.ref a1), (.ref a2)] below meth c s₁ [] 0 0 := Stand.of_body Bd
  have e0 : s₁.heap = h0 := by rw [← hh, Bd.state]; rfl
  have N0 := Fr.nil n0
  have KP0 := Keep.refl h0 []
  refine own_go (Q := (OwnEnd s (fun v h L => v = some (.int (own_cmp r q)) ∧ Fr n0 L ∧ h = h0) ({ frames := 1, cells := 0, slots := 0, locals := 30 } : Room).cells ({ frames := 1, cells := 0, slots := 0, locals := 30 } : Room).slots)) ?_
  refine own_back (fun t k => castTop (ct_ef m a1 a2) k) ?_
  show OwnGo p e below (s₁.setTop (mkF m 0 #[.val (.ref a1), .val (.ref a2)] [])) _
  have E1 := B1.exa
  have E2 := B2.exa
  have F1 := B1.sig
  have F2 := B2.sig
  by_cases hr : r = 0
  · rw [if_pos hr] at F1
    by_cases hq : q = 0
    · rw [if_pos hq] at F2
      show OwnGo p e below (s₁.setTop (mkF m 0 #[.val (.ref a1), .val (.ref a2)] [])) _
      refine own_back (fun t k => XS.aloadN X0.here hx rfl (hb hby ct_d0) rfl rfl k) ?_
      show OwnGo p e below (s₁.setTop (mkF m 1 #[.val (.ref a1), .val (.ref a2)] [(.ref a1)])) _
      obtain ⟨T248, X248, e248, st248⟩ := getF X0 hx hZ hown (host := "") (Or.inl (hw _ (List.mem_of_getElem? (i := 43) rfl))) Via.refl e0 F1 (g := (mkF m 1 #[.val (.ref a1), .val (.ref a2)] [(.ref a1)])) rfl rfl (hb hby ct_d1)
      refine own_back st248 ?_
      show OwnGo p e below (T248.setTop (mkF m 4 #[.val (.ref a1), .val (.ref a2)] [(.int (0 : Int32))])) _
      refine own_back (fun t k => XS.aloadN X248.here hx rfl (hb hby ct_d4) rfl rfl k) ?_
      show OwnGo p e below (T248.setTop (mkF m 5 #[.val (.ref a1), .val (.ref a2)] [(.ref a2), (.int (0 : Int32))])) _
      obtain ⟨T249, X249, e249, st249⟩ := getF X248 hx hZ hown (host := "") (Or.inl (hw _ (List.mem_of_getElem? (i := 43) rfl))) Via.refl e248 F2 (g := (mkF m 5 #[.val (.ref a1), .val (.ref a2)] [(.ref a2), (.int (0 : Int32))])) rfl rfl (hb hby ct_d5)
      refine own_back st249 ?_
      show OwnGo p e below (T249.setTop (mkF m 8 #[.val (.ref a1), .val (.ref a2)] [(.int (0 : Int32)), (.int (0 : Int32))])) _
      refine own_back (fun t k => XS.icmpNo X249.here hx rfl (hb hby ct_d8) rfl (Jvm.Free.XT.ii_ne_f (by decide)) k) ?_
      show OwnGo p e below (T249.setTop (mkF m 11 #[.val (.ref a1), .val (.ref a2)] [])) _
      refine own_back (fun t k => XS.aloadN X249.here hx rfl (hb hby ct_d11) rfl rfl k) ?_
      show OwnGo p e below (T249.setTop (mkF m 12 #[.val (.ref a1), .val (.ref a2)] [(.ref a1)])) _
      obtain ⟨T250, X250, e250, st250⟩ := getF X249 hx hZ hown (host := "") (Or.inl (hw _ (List.mem_of_getElem? (i := 43) rfl))) Via.refl e249 F1 (g := (mkF m 12 #[.val (.ref a1), .val (.ref a2)] [(.ref a1)])) rfl rfl (hb hby ct_d12)
      refine own_back st250 ?_
      show OwnGo p e below (T250.setTop (mkF m 15 #[.val (.ref a1), .val (.ref a2)] [(.int (0 : Int32))])) _
      refine own_back (fun t k => X250.lookupswitchMiss hx (g := (mkF m 15 #[.val (.ref a1), .val (.ref a2)] [(.int (0 : Int32))])) rfl rfl (hb hby ct_d15) (by decide) (by decide) (by show (0 : Int) ≤ ((15 : Nat) : Int) + 41; decide) t k) ?_
      show OwnGo p e below (T250.setTop (mkF m 56 #[.val (.ref a1), .val (.ref a2)] [])) _
      refine own_back (fun t k => XS.iconst X250.here hx rfl (hb hby ct_d56) k) ?_
      show OwnGo p e below (T250.setTop (mkF m 57 #[.val (.ref a1), .val (.ref a2)] [(.int (0 : Int32))])) _
      refine own_retI X250 hx Bd.notSynchronized Bd.returns (hb hby ct_d57) e250 (Nat.le_of_ble_eq_true rfl) (Nat.le_of_ble_eq_true rfl) ?_
      exact ⟨by rw [hr, hq]; decide, N0, rfl⟩
    · rw [if_neg hq] at F2
      show OwnGo p e below (s₁.setTop (mkF m 0 #[.val (.ref a1), .val (.ref a2)] [])) _
      refine own_back (fun t k => XS.aloadN X0.here hx rfl (hb hby ct_d0) rfl rfl k) ?_
      show OwnGo p e below (s₁.setTop (mkF m 1 #[.val (.ref a1), .val (.ref a2)] [(.ref a1)])) _
      obtain ⟨T251, X251, e251, st251⟩ := getF X0 hx hZ hown (host := "") (Or.inl (hw _ (List.mem_of_getElem? (i := 43) rfl))) Via.refl e0 F1 (g := (mkF m 1 #[.val (.ref a1), .val (.ref a2)] [(.ref a1)])) rfl rfl (hb hby ct_d1)
      refine own_back st251 ?_
      show OwnGo p e below (T251.setTop (mkF m 4 #[.val (.ref a1), .val (.ref a2)] [(.int (0 : Int32))])) _
      refine own_back (fun t k => XS.aloadN X251.here hx rfl (hb hby ct_d4) rfl rfl k) ?_
      show OwnGo p e below (T251.setTop (mkF m 5 #[.val (.ref a1), .val (.ref a2)] [(.ref a2), (.int (0 : Int32))])) _
      obtain ⟨T252, X252, e252, st252⟩ := getF X251 hx hZ hown (host := "") (Or.inl (hw _ (List.mem_of_getElem? (i := 43) rfl))) Via.refl e251 F2 (g := (mkF m 5 #[.val (.ref a1), .val (.ref a2)] [(.ref a2), (.int (0 : Int32))])) rfl rfl (hb hby ct_d5)
      refine own_back st252 ?_
      show OwnGo p e below (T252.setTop (mkF m 8 #[.val (.ref a1), .val (.ref a2)] [(.int (1 : Int32)), (.int (0 : Int32))])) _
      refine own_back (fun t k => XS.icmpYes X252.here hx rfl (pc0 := 8) (pc' := 58) rfl (hb hby ct_d8) rfl (Jvm.Free.XT.ii_ne_t (by decide)) (by decide) (by decide) k) ?_
      show OwnGo p e below (T252.setTop (mkF m 58 #[.val (.ref a1), .val (.ref a2)] [])) _
      refine own_back (fun t k => XS.aloadN X252.here hx rfl (hb hby ct_d58) rfl rfl k) ?_
      show OwnGo p e below (T252.setTop (mkF m 59 #[.val (.ref a1), .val (.ref a2)] [(.ref a1)])) _
      obtain ⟨T253, X253, e253, st253⟩ := getF X252 hx hZ hown (host := "") (Or.inl (hw _ (List.mem_of_getElem? (i := 43) rfl))) Via.refl e252 F1 (g := (mkF m 59 #[.val (.ref a1), .val (.ref a2)] [(.ref a1)])) rfl rfl (hb hby ct_d59)
      refine own_back st253 ?_
      show OwnGo p e below (T253.setTop (mkF m 62 #[.val (.ref a1), .val (.ref a2)] [(.int (0 : Int32))])) _
      refine own_back (fun t k => XS.aloadN X253.here hx rfl (hb hby ct_d62) rfl rfl k) ?_
      show OwnGo p e below (T253.setTop (mkF m 63 #[.val (.ref a1), .val (.ref a2)] [(.ref a2), (.int (0 : Int32))])) _
      obtain ⟨T254, X254, e254, st254⟩ := getF X253 hx hZ hown (host := "") (Or.inl (hw _ (List.mem_of_getElem? (i := 43) rfl))) Via.refl e253 F2 (g := (mkF m 63 #[.val (.ref a1), .val (.ref a2)] [(.ref a2), (.int (0 : Int32))])) rfl rfl (hb hby ct_d63)
      refine own_back st254 ?_
      show OwnGo p e below (T254.setTop (mkF m 66 #[.val (.ref a1), .val (.ref a2)] [(.int (1 : Int32)), (.int (0 : Int32))])) _
      refine own_back (fun t k => XS.icmpYes X254.here hx rfl (pc0 := 66) (pc' := 73) rfl (hb hby ct_d66) rfl (Jvm.Free.XT.ii_le_t (by decide)) (by decide) (by decide) k) ?_
      show OwnGo p e below (T254.setTop (mkF m 73 #[.val (.ref a1), .val (.ref a2)] [])) _
      refine own_back (fun t k => XS.iconst X254.here hx rfl (hb hby ct_d73) k) ?_
      show OwnGo p e below (T254.setTop (mkF m 74 #[.val (.ref a1), .val (.ref a2)] [(.int (-1 : Int32))])) _
      refine own_retI X254 hx Bd.notSynchronized Bd.returns (hb hby ct_d74) e254 (Nat.le_of_ble_eq_true rfl) (Nat.le_of_ble_eq_true rfl) ?_
      exact ⟨by rw [own_cmp_lt (own_0lt hr nq hq)], N0, rfl⟩
  · rw [if_neg hr] at F1
    by_cases hq : q = 0
    · rw [if_pos hq] at F2
      show OwnGo p e below (s₁.setTop (mkF m 0 #[.val (.ref a1), .val (.ref a2)] [])) _
      refine own_back (fun t k => XS.aloadN X0.here hx rfl (hb hby ct_d0) rfl rfl k) ?_
      show OwnGo p e below (s₁.setTop (mkF m 1 #[.val (.ref a1), .val (.ref a2)] [(.ref a1)])) _
      obtain ⟨T255, X255, e255, st255⟩ := getF X0 hx hZ hown (host := "") (Or.inl (hw _ (List.mem_of_getElem? (i := 43) rfl))) Via.refl e0 F1 (g := (mkF m 1 #[.val (.ref a1), .val (.ref a2)] [(.ref a1)])) rfl rfl (hb hby ct_d1)
      refine own_back st255 ?_
      show OwnGo p e below (T255.setTop (mkF m 4 #[.val (.ref a1), .val (.ref a2)] [(.int (1 : Int32))])) _
      refine own_back (fun t k => XS.aloadN X255.here hx rfl (hb hby ct_d4) rfl rfl k) ?_
      show OwnGo p e below (T255.setTop (mkF m 5 #[.val (.ref a1), .val (.ref a2)] [(.ref a2), (.int (1 : Int32))])) _
      obtain ⟨T256, X256, e256, st256⟩ := getF X255 hx hZ hown (host := "") (Or.inl (hw _ (List.mem_of_getElem? (i := 43) rfl))) Via.refl e255 F2 (g := (mkF m 5 #[.val (.ref a1), .val (.ref a2)] [(.ref a2), (.int (1 : Int32))])) rfl rfl (hb hby ct_d5)
      refine own_back st256 ?_
      show OwnGo p e below (T256.setTop (mkF m 8 #[.val (.ref a1), .val (.ref a2)] [(.int (0 : Int32)), (.int (1 : Int32))])) _
      refine own_back (fun t k => XS.icmpYes X256.here hx rfl (pc0 := 8) (pc' := 58) rfl (hb hby ct_d8) rfl (Jvm.Free.XT.ii_ne_t (by decide)) (by decide) (by decide) k) ?_
      show OwnGo p e below (T256.setTop (mkF m 58 #[.val (.ref a1), .val (.ref a2)] [])) _
      refine own_back (fun t k => XS.aloadN X256.here hx rfl (hb hby ct_d58) rfl rfl k) ?_
      show OwnGo p e below (T256.setTop (mkF m 59 #[.val (.ref a1), .val (.ref a2)] [(.ref a1)])) _
      obtain ⟨T257, X257, e257, st257⟩ := getF X256 hx hZ hown (host := "") (Or.inl (hw _ (List.mem_of_getElem? (i := 43) rfl))) Via.refl e256 F1 (g := (mkF m 59 #[.val (.ref a1), .val (.ref a2)] [(.ref a1)])) rfl rfl (hb hby ct_d59)
      refine own_back st257 ?_
      show OwnGo p e below (T257.setTop (mkF m 62 #[.val (.ref a1), .val (.ref a2)] [(.int (1 : Int32))])) _
      refine own_back (fun t k => XS.aloadN X257.here hx rfl (hb hby ct_d62) rfl rfl k) ?_
      show OwnGo p e below (T257.setTop (mkF m 63 #[.val (.ref a1), .val (.ref a2)] [(.ref a2), (.int (1 : Int32))])) _
      obtain ⟨T258, X258, e258, st258⟩ := getF X257 hx hZ hown (host := "") (Or.inl (hw _ (List.mem_of_getElem? (i := 43) rfl))) Via.refl e257 F2 (g := (mkF m 63 #[.val (.ref a1), .val (.ref a2)] [(.ref a2), (.int (1 : Int32))])) rfl rfl (hb hby ct_d63)
      refine own_back st258 ?_
      show OwnGo p e below (T258.setTop (mkF m 66 #[.val (.ref a1), .val (.ref a2)] [(.int (0 : Int32)), (.int (1 : Int32))])) _
      refine own_back (fun t k => XS.icmpNo X258.here hx rfl (hb hby ct_d66) rfl (Jvm.Free.XT.ii_le_f (by decide)) k) ?_
      show OwnGo p e below (T258.setTop (mkF m 69 #[.val (.ref a1), .val (.ref a2)] [])) _
      refine own_back (fun t k => XS.iconst X258.here hx rfl (hb hby ct_d69) k) ?_
      show OwnGo p e below (T258.setTop (mkF m 70 #[.val (.ref a1), .val (.ref a2)] [(.int (1 : Int32))])) _
      refine own_back (fun t k => XS.goto X258.here hx rfl (pc0 := 70) (pc' := 74) rfl (hb hby ct_d70) (by decide) (by decide) k) ?_
      show OwnGo p e below (T258.setTop (mkF m 74 #[.val (.ref a1), .val (.ref a2)] [(.int (1 : Int32))])) _
      refine own_retI X258 hx Bd.notSynchronized Bd.returns (hb hby ct_d74) e258 (Nat.le_of_ble_eq_true rfl) (Nat.le_of_ble_eq_true rfl) ?_
      exact ⟨by rw [own_cmp_gt (own_0lt hq nr hr)], N0, rfl⟩
    · rw [if_neg hq] at F2
      show OwnGo p e below (s₁.setTop (mkF m 0 #[.val (.ref a1), .val (.ref a2)] [])) _
      refine own_back (fun t k => XS.aloadN X0.here hx rfl (hb hby ct_d0) rfl rfl k) ?_
      show OwnGo p e below (s₁.setTop (mkF m 1 #[.val (.ref a1), .val (.ref a2)] [(.ref a1)])) _
      obtain ⟨T259, X259, e259, st259⟩ := getF X0 hx hZ hown (host := "") (Or.inl (hw _ (List.mem_of_getElem? (i := 43) rfl))) Via.refl e0 F1 (g := (mkF m 1 #[.val (.ref a1), .val (.ref a2)] [(.ref a1)])) rfl rfl (hb hby ct_d1)
      refine own_back st259 ?_
      show OwnGo p e below (T259.setTop (mkF m 4 #[.val (.ref a1), .val (.ref a2)] [(.int (1 : Int32))])) _
      refine own_back (fun t k => XS.aloadN X259.here hx rfl (hb hby ct_d4) rfl rfl k) ?_
      show OwnGo p e below (T259.setTop (mkF m 5 #[.val (.ref a1), .val (.ref a2)] [(.ref a2), (.int (1 : Int32))])) _
      obtain ⟨T260, X260, e260, st260⟩ := getF X259 hx hZ hown (host := "") (Or.inl (hw _ (List.mem_of_getElem? (i := 43) rfl))) Via.refl e259 F2 (g := (mkF m 5 #[.val (.ref a1), .val (.ref a2)] [(.ref a2), (.int (1 : Int32))])) rfl rfl (hb hby ct_d5)
      refine own_back st260 ?_
      show OwnGo p e below (T260.setTop (mkF m 8 #[.val (.ref a1), .val (.ref a2)] [(.int (1 : Int32)), (.int (1 : Int32))])) _
      refine own_back (fun t k => XS.icmpNo X260.here hx rfl (hb hby ct_d8) rfl (Jvm.Free.XT.ii_ne_f (by decide)) k) ?_
      show OwnGo p e below (T260.setTop (mkF m 11 #[.val (.ref a1), .val (.ref a2)] [])) _
      refine own_back (fun t k => XS.aloadN X260.here hx rfl (hb hby ct_d11) rfl rfl k) ?_
      show OwnGo p e below (T260.setTop (mkF m 12 #[.val (.ref a1), .val (.ref a2)] [(.ref a1)])) _
      obtain ⟨T261, X261, e261, st261⟩ := getF X260 hx hZ hown (host := "") (Or.inl (hw _ (List.mem_of_getElem? (i := 43) rfl))) Via.refl e260 F1 (g := (mkF m 12 #[.val (.ref a1), .val (.ref a2)] [(.ref a1)])) rfl rfl (hb hby ct_d12)
      refine own_back st261 ?_
      show OwnGo p e below (T261.setTop (mkF m 15 #[.val (.ref a1), .val (.ref a2)] [(.int (1 : Int32))])) _
      refine own_back (fun t k => X261.lookupswitchHit hx (g := (mkF m 15 #[.val (.ref a1), .val (.ref a2)] [(.int (1 : Int32))])) rfl rfl (hb hby ct_d15) (by decide) (a := 1) (off := 25) (by decide) (by show (0 : Int) ≤ ((15 : Nat) : Int) + 25; decide) t k) ?_
      show OwnGo p e below (T261.setTop (mkF m 40 #[.val (.ref a1), .val (.ref a2)] [])) _
      refine own_back (fun t k => XS.aloadN X261.here hx rfl (hb hby ct_d40) rfl rfl k) ?_
      show OwnGo p e below (T261.setTop (mkF m 41 #[.val (.ref a1), .val (.ref a2)] [(.ref a1)])) _
      refine own_back (fun t k => XS.aloadN X261.here hx rfl (hb hby ct_d41) rfl rfl k) ?_
      show OwnGo p e below (T261.setTop (mkF m 42 #[.val (.ref a1), .val (.ref a2)] [(.ref a2), (.ref a1)])) _
      obtain ⟨cq262, kq262, q262a, q262b, q262c⟩ := isOf hZ e261 E1
      obtain ⟨_, _, ⟨T262, L262, k262, n262⟩, -, X262, ⟨Lc262, hQ262, l262, y262, z262⟩, st262⟩ := X261.virtualBack hx (y := (⟨"java/math/BigInteger", "compareMagnitude", "(Ljava/math/BigInteger;)I"⟩ : MethodName)) (z := (⟨"java/math/BigInteger", "compareMagnitude", "(Ljava/math/BigInteger;)I"⟩ : MethodName)) hown (mvT hZ (hw _ (List.mem_of_getElem? (i := 45) rfl))) (mvT hZ (hw _ (List.mem_of_getElem? (i := 46) rfl))) (notFace_of_selects (args := #[]) (mvT hZ (hw _ (List.mem_of_getElem? (i := 48) rfl)))) (mvT hZ (hw _ (List.mem_of_getElem? (i := 48) rfl))) (mvT hZ (hw _ (List.mem_of_getElem? (i := 47) rfl))) (by decide) (own_backN (W := 0) (rm_cm l Z a0 hw [] a1 a2 r q h0 n0 Z0 B1 B2 (own_gt0 nr hr) (own_gt0 nq hq)) hZ (hw _ (List.mem_of_getElem? (i := 49) rfl)) (hw _ (List.mem_of_getElem? (i := 28) rfl)) (by decide) (by decide)) q262a q262c (g := (mkF m 42 #[.val (.ref a1), .val (.ref a2)] [(.ref a2), (.ref a1)])) rfl (by rw [hml]; rfl) (Steps.refl _) (argsL := [(.ref a2)]) (rest := []) (lenOf ct_pd0 rfl) rfl (by show 2 * 0 + _ ≤ _; exact Nat.le_of_eq rfl) (hb hby ct_d42) (fun _ _ => ⟨rfl, e261, Nat.le_of_ble_eq_true rfl, Nat.le_of_ble_eq_true rfl⟩)
      dsimp only [Pt.U, Pt.locs, Pt.cells, Pt.slots] at X262 l262 y262 z262 st262 hQ262
      subst l262 y262 z262
      obtain ⟨rfl, N262q, hh262⟩ := hQ262
      refine own_seq st262 ?_
      have N262 := Fr.app N0 N262q
      show OwnGo p e below (T262.setTop (mkF m 45 #[.val (.ref a1), .val (.ref a2)] [(.int (own_cmp r q))])) _
      refine own_back (fun t k => XS.goto X262.here hx rfl (pc0 := 45) (pc' := 57) rfl (hb hby ct_d45) (by decide) (by decide) k) ?_
      show OwnGo p e below (T262.setTop (mkF m 57 #[.val (.ref a1), .val (.ref a2)] [(.int (own_cmp r q))])) _
      refine own_retI X262 hx Bd.notSynchronized Bd.returns (hb hby ct_d57) hh262 (Nat.le_of_ble_eq_true rfl) (Nat.le_of_ble_eq_true rfl) ?_
      exact ⟨rfl, N262, rfl⟩
theorem own_cmp_t {q r : Int64} (h : (0 : Int32) < own_cmp q r) : (if r < q then (0 : Int32) else 1) = 0 := by
  by_cases h1 : r < q
  · exact if_pos h1
  · exfalso
    by_cases h2 : q = r
    · rw [own_cmp, if_neg h1, if_pos h2] at h; exact absurd h (by decide)
    · rw [own_cmp, if_neg h1, if_neg h2] at h; exact absurd h (by decide)
theorem own_cmp_f {q r : Int64} (h : ¬ (0 : Int32) < own_cmp q r) : (if r < q then (0 : Int32) else 1) = 1 := by
  by_cases h1 : r < q
  · exfalso; rw [own_cmp, if_pos h1] at h; exact h (by decide)
  · exact if_neg h1
theorem ho_d0 : decode prog_6_method_2_code 0 = .ok (.aload_n 1, 1) := by decide +kernel
theorem ho_d1 : decode prog_6_method_2_code 1 = .ok (.aload_n 0, 1) := by decide +kernel
theorem ho_d2 : decode prog_6_method_2_code 2 = .ok (.getfield 16, 3) := by decide +kernel
theorem ho_d5 : decode prog_6_method_2_code 5 = .ok (.invokestatic 22, 3) := by decide +kernel
theorem ho_d8 : decode prog_6_method_2_code 8 = .ok (.invokevirtual 28, 3) := by decide +kernel
theorem ho_d11 : decode prog_6_method_2_code 11 = .ok (.ifCond .gt 7, 3) := by decide +kernel
theorem ho_d14 : decode prog_6_method_2_code 14 = .ok (.iconst 1, 1) := by decide +kernel
theorem ho_d15 : decode prog_6_method_2_code 15 = .ok (.goto 4, 3) := by decide +kernel
theorem ho_d18 : decode prog_6_method_2_code 18 = .ok (.iconst 0, 1) := by decide +kernel
theorem ho_d19 : decode prog_6_method_2_code 19 = .ok (.ireturn, 1) := by decide +kernel
theorem ho_pn : plainName "com/example/quantpath/quantpath/count/Budget" = true := by first | (simp [plainName, overriddenIn]; done) | decide +kernel
theorem ho_pd0 : parseMethodDescriptor "(J)Ljava/math/BigInteger;" = some ⟨[.long], some (.object "java/math/BigInteger")⟩ := by decide +kernel
theorem ho_pd1 : parseMethodDescriptor "(Ljava/math/BigInteger;)I" = some ⟨[(.object "java/math/BigInteger")], some .int⟩ := by decide +kernel
theorem ho_ef (m : MethodId) (x0 : Addr) (x1 : Addr) : entryFrame m #[(.ref x0), (.ref x1)] 2 = mkF m 0 #[.val (.ref x0), .val (.ref x1)] [] := by first | (simp [entryFrame, mkF, argsToLocals, Value.category]; done) | rfl
set_option maxRecDepth 65536 in
set_option maxHeartbeats 40000000 in
theorem rm_ho (l : Launch) (Z : State) (a0 : Array Value) (hw : ∀ d ∈ tables_1, d.before a0 Z = true) (ws : List Jvm.Cond) (a1 : Addr) (a2 : Addr) (r : Int64) (q : Int64) (wz : Addr) (wp : Addr) (cp : Cell) (h0 : Heap) (n0 : Nat) (Z0 : n0 ≤ h0.size) (OL : Old Z n0 h0) (SZ : Sta Z Z.heap "java/math/BigInteger" "ZERO" "Ljava/math/BigInteger;" (.ref wz)) (SP : Sta Z Z.heap "java/math/BigInteger" "posConst" "[Ljava/math/BigInteger;" (.ref wp)) (BZ : OwnBig Z Z.heap wz 0) (AP : Arr Z Z.heap wp cp (.object "java/math/BigInteger")) (nP : cp.slots.size = 17) (HP : ∀ r : Int64, 0 < r → ¬ 16 < r → ∃ a, cp.slots[r.toInt32.toNatClampNeg]? = some (.ref a) ∧ OwnBig Z Z.heap a r) (F1 : Fld Z h0 a1 "com/example/quantpath/quantpath/count/Budget" "left" "J" (.long r)) (B1 : OwnBig Z h0 a2 q) (nr : ¬ r < 0) (nq : ¬ q < 0) :
    MetFree l (⟨"com/example/quantpath/quantpath/count/Budget", "holds", "(Ljava/math/BigInteger;)Z"⟩ : MethodName) (head1 (Jvm.Cond.code (⟨"com/example/quantpath/quantpath/count/Budget", "holds", "(Ljava/math/BigInteger;)Z"⟩ : MethodName) prog_6_method_2_code 2 (some .boolean) :: ws) ({ frames := 4, cells := 2, slots := 8, locals := 100 } : Room)) (fun a U => a = #[(.ref a1), (.ref a2)] ∧ Z.Warmed39 U.vm ∧ U.heap = h0) (fun _ _ _ _ _ => True) (fun _ U o U' => OwnEnd U (fun v h L => v = some (.int (if r < q then 0 else 1)) ∧ Fr n0 L ∧ Ext h0 h) ({ frames := 4, cells := 2, slots := 8, locals := 100 } : Room).cells ({ frames := 4, cells := 2, slots := 8, locals := 100 } : Room).slots o U') := by
  refine MetFree.of_bodySF (plainFor_of_name ho_pn) hisR ?_
  intro p e s m args below meth c s₁ Bd hml0 hP hK
  obtain ⟨rfl, hZ, hh⟩ := hP
  have hx := Bd.exec
  have hby := Bd.bytes
  have hml : c.maxLocals = 2 := hml0
  have hown : s.vm.findClass "com/example/quantpath/quantpath/count/Budget" = some m.cls := findClass_of_methodNamed Bd.named
  have hnm := (name_of_methodNamed Bd.named Bd.method).1
  have X0 : Stand p l e ({ frames := 4, cells := 2, slots := 8, locals := 100 } : Room) s m #[(.ref a1), (.ref a2)] below meth c s₁ [] 0 0 := Stand.of_body Bd
  have e0 : s₁.heap = h0 := by rw [← hh, Bd.state]; rfl
  have N0 := Fr.nil n0
  have KP0 := Keep.refl h0 []
  refine own_go (Q := (OwnEnd s (fun v h L => v = some (.int (if r < q then 0 else 1)) ∧ Fr n0 L ∧ Ext h0 h) ({ frames := 4, cells := 2, slots := 8, locals := 100 } : Room).cells ({ frames := 4, cells := 2, slots := 8, locals := 100 } : Room).slots)) ?_
  refine own_back (fun t k => castTop (ho_ef m a1 a2) k) ?_
  show OwnGo p e below (s₁.setTop (mkF m 0 #[.val (.ref a1), .val (.ref a2)] [])) _
  refine own_back (fun t k => XS.aloadN X0.here hx rfl (hb hby ho_d0) rfl rfl k) ?_
  show OwnGo p e below (s₁.setTop (mkF m 1 #[.val (.ref a1), .val (.ref a2)] [(.ref a2)])) _
  refine own_back (fun t k => XS.aloadN X0.here hx rfl (hb hby ho_d1) rfl rfl k) ?_
  show OwnGo p e below (s₁.setTop (mkF m 2 #[.val (.ref a1), .val (.ref a2)] [(.ref a1), (.ref a2)])) _
  obtain ⟨T263, X263, e263, st263⟩ := getF X0 hx hZ hown (host := "") (Or.inl (hw _ (List.mem_of_getElem? (i := 15) rfl))) Via.refl e0 F1 (g := (mkF m 2 #[.val (.ref a1), .val (.ref a2)] [(.ref a1), (.ref a2)])) rfl rfl (hb hby ho_d2)
  refine own_back st263 ?_
  show OwnGo p e below (T263.setTop (mkF m 5 #[.val (.ref a1), .val (.ref a2)] [(.long r), (.ref a2)])) _
  obtain ⟨_, _, ⟨T264, L264, k264, n264⟩, -, X264, ⟨Lc264, hQ264, l264, y264, z264⟩, st264⟩ := Jvm.LawKit.callS X263 hx (y := (⟨"java/math/BigInteger", "valueOf", "(J)Ljava/math/BigInteger;"⟩ : MethodName)) hown (mvT hZ (hw _ (List.mem_of_getElem? (i := 37) rfl))) (mvT hZ (hw _ (List.mem_of_getElem? (i := 27) rfl))) (mvT hZ (hw _ (List.mem_of_getElem? (i := 28) rfl))) (mvT hZ (hw _ (List.mem_of_getElem? (i := 29) rfl))) (by decide) (own_backN (W := 1) (rm_vo l Z a0 hw [] r wz wp cp h0 n0 Z0 OL SZ SP BZ AP nP HP nr) hZ (hw _ (List.mem_of_getElem? (i := 29) rfl)) (hw _ (List.mem_of_getElem? (i := 28) rfl)) (by decide) (by decide)) (g := (mkF m 5 #[.val (.ref a1), .val (.ref a2)] [(.long r), (.ref a2)])) rfl (by rw [hml]; rfl) (argsL := [(.long r)]) (rest := [(.ref a2)]) (lenOf ho_pd0 rfl) rfl (by show 2 * 0 + _ ≤ _; exact Nat.le_of_eq rfl) (hb hby ho_d5) (fun _ _ => ⟨rfl, e263, Nat.le_of_ble_eq_true rfl, Nat.le_of_ble_eq_true rfl⟩)
  dsimp only [Pt.U, Pt.locs, Pt.cells, Pt.slots] at X264 l264 y264 z264 st264 hQ264
  subst l264 y264 z264
  obtain ⟨ab264, rfl, N264q, E264, B264⟩ := hQ264
  refine own_back st264 ?_
  have N264 := Fr.app N0 N264q
  have O265 := OL.ext E264
  have KP266 := KP0.ext E264
  have Zs267 := Nat.le_trans Z0 E264.1
  have f268 := F1.ext E264
  show OwnGo p e below (T264.setTop (mkF m 8 #[.val (.ref a1), .val (.ref a2)] [(.ref ab264), (.ref a2)])) _
  have B1' := B1.ext E264
  have E1' := B1'.exa
  obtain ⟨cq269, kq269, q269a, q269b, q269c⟩ := isOf hZ rfl E1'
  obtain ⟨_, _, ⟨T269, L269, k269, n269⟩, -, X269, ⟨Lc269, hQ269, l269, y269, z269⟩, st269⟩ := X264.virtualBack hx (y := (⟨"java/math/BigInteger", "compareTo", "(Ljava/math/BigInteger;)I"⟩ : MethodName)) (z := (⟨"java/math/BigInteger", "compareTo", "(Ljava/math/BigInteger;)I"⟩ : MethodName)) hown (mvT hZ (hw _ (List.mem_of_getElem? (i := 38) rfl))) (mvT hZ (hw _ (List.mem_of_getElem? (i := 39) rfl))) (notFace_of_selects (args := #[]) (mvT hZ (hw _ (List.mem_of_getElem? (i := 41) rfl)))) (mvT hZ (hw _ (List.mem_of_getElem? (i := 41) rfl))) (mvT hZ (hw _ (List.mem_of_getElem? (i := 40) rfl))) (by decide) (own_backN (W := 0) (rm_ct l Z a0 hw [] a2 ab264 q r T264.heap n0 Zs267 B1' B264 nq nr) hZ (hw _ (List.mem_of_getElem? (i := 42) rfl)) (hw _ (List.mem_of_getElem? (i := 28) rfl)) (by decide) (by decide)) q269a q269c (g := (mkF m 8 #[.val (.ref a1), .val (.ref a2)] [(.ref ab264), (.ref a2)])) rfl (by rw [hml]; rfl) (Steps.refl _) (argsL := [(.ref ab264)]) (rest := []) (lenOf ho_pd1 rfl) rfl (by show 2 * 0 + _ ≤ _; exact Nat.le_of_eq rfl) (hb hby ho_d8) (fun _ _ => ⟨rfl, rfl, Nat.le_of_ble_eq_true rfl, Nat.le_of_ble_eq_true rfl⟩)
  dsimp only [Pt.U, Pt.locs, Pt.cells, Pt.slots] at X269 l269 y269 z269 st269 hQ269
  subst l269 y269 z269
  obtain ⟨rfl, N269q, hh269⟩ := hQ269
  refine own_seq st269 ?_
  have N269 := Fr.app N264 N269q
  show OwnGo p e below (T269.setTop (mkF m 11 #[.val (.ref a1), .val (.ref a2)] [(.int (own_cmp q r))])) _
  by_cases hc11_270 : (0 : Int32) < (own_cmp q r)
  · refine own_back (fun t k => XS.ifYes X269.here hx rfl (pc0 := 11) (pc' := 18) rfl (hb hby ho_d11) rfl (Jvm.Free.XT.i0_gt_t hc11_270) (by decide) (by decide) k) ?_
    show OwnGo p e below (T269.setTop (mkF m 18 #[.val (.ref a1), .val (.ref a2)] [])) _
    refine own_back (fun t k => XS.iconst X269.here hx rfl (hb hby ho_d18) k) ?_
    show OwnGo p e below (T269.setTop (mkF m 19 #[.val (.ref a1), .val (.ref a2)] [(.int (0 : Int32))])) _
    refine own_retN X269 hx Bd.notSynchronized (t := .boolean) (z := (0 : Int32)) Bd.returns (by simp) rfl (hb hby ho_d19) hh269 (Nat.le_of_ble_eq_true rfl) (Nat.le_of_ble_eq_true rfl) ?_
    exact ⟨by rw [own_cmp_t hc11_270], N269, own_ext KP266⟩
  · refine own_back (fun t k => XS.ifNo X269.here hx rfl (hb hby ho_d11) rfl (Jvm.Free.XT.i0_gt_f hc11_270) k) ?_
    show OwnGo p e below (T269.setTop (mkF m 14 #[.val (.ref a1), .val (.ref a2)] [])) _
    refine own_back (fun t k => XS.iconst X269.here hx rfl (hb hby ho_d14) k) ?_
    show OwnGo p e below (T269.setTop (mkF m 15 #[.val (.ref a1), .val (.ref a2)] [(.int (1 : Int32))])) _
    refine own_back (fun t k => XS.goto X269.here hx rfl (pc0 := 15) (pc' := 19) rfl (hb hby ho_d15) (by decide) (by decide) k) ?_
    show OwnGo p e below (T269.setTop (mkF m 19 #[.val (.ref a1), .val (.ref a2)] [(.int (1 : Int32))])) _
    refine own_retN X269 hx Bd.notSynchronized (t := .boolean) (z := (1 : Int32)) Bd.returns (by simp) rfl (hb hby ho_d19) hh269 (Nat.le_of_ble_eq_true rfl) (Nat.le_of_ble_eq_true rfl) ?_
    exact ⟨by rw [own_cmp_f hc11_270], N269, own_ext KP266⟩
theorem sp_d0 : decode prog_6_method_3_code 0 = .ok (.aload_n 0, 1) := by decide +kernel
theorem sp_d1 : decode prog_6_method_3_code 1 = .ok (.getfield 16, 3) := by decide +kernel
theorem sp_d4 : decode prog_6_method_3_code 4 = .ok (.iload_n 1, 1) := by decide +kernel
theorem sp_d5 : decode prog_6_method_3_code 5 = .ok (.i2l, 1) := by decide +kernel
theorem sp_d6 : decode prog_6_method_3_code 6 = .ok (.lcmp, 1) := by decide +kernel
theorem sp_d7 : decode prog_6_method_3_code 7 = .ok (.ifCond .ge 11, 3) := by decide +kernel
theorem sp_d18 : decode prog_6_method_3_code 18 = .ok (.aload_n 0, 1) := by decide +kernel
theorem sp_d19 : decode prog_6_method_3_code 19 = .ok (.dup, 1) := by decide +kernel
theorem sp_d20 : decode prog_6_method_3_code 20 = .ok (.getfield 16, 3) := by decide +kernel
theorem sp_d23 : decode prog_6_method_3_code 23 = .ok (.iload_n 1, 1) := by decide +kernel
theorem sp_d24 : decode prog_6_method_3_code 24 = .ok (.i2l, 1) := by decide +kernel
theorem sp_d25 : decode prog_6_method_3_code 25 = .ok (.lsub, 1) := by decide +kernel
theorem sp_d26 : decode prog_6_method_3_code 26 = .ok (.putfield 16, 3) := by decide +kernel
theorem sp_d29 : decode prog_6_method_3_code 29 = .ok (.return_, 1) := by decide +kernel
theorem sp_pn : plainName "com/example/quantpath/quantpath/count/Budget" = true := by first | (simp [plainName, overriddenIn]; done) | decide +kernel
theorem sp_ef (m : MethodId) (x0 : Addr) (x1 : Int32) : entryFrame m #[(.ref x0), (.int x1)] 2 = mkF m 0 #[.val (.ref x0), .val (.int x1)] [] := by first | (simp [entryFrame, mkF, argsToLocals, Value.category]; done) | rfl
set_option maxRecDepth 65536 in
set_option maxHeartbeats 40000000 in
theorem rm_sp (l : Launch) (Z : State) (a0 : Array Value) (hw : ∀ d ∈ tables_1, d.before a0 Z = true) (ws : List Jvm.Cond) (a1 : Addr) (p1 : Int32) (r : Int64) (h0 : Heap) (n0 : Nat) (Z0 : n0 ≤ h0.size) (OL : Old Z n0 h0) (E1 : Exa Z h0 a1 "com/example/quantpath/quantpath/count/Budget") (F1 : Fld Z h0 a1 "com/example/quantpath/quantpath/count/Budget" "left" "J" (.long r)) (g1 : n0 ≤ a1) (hn : ¬ r < p1.toInt64) :
    MetFree l (⟨"com/example/quantpath/quantpath/count/Budget", "spend", "(I)V"⟩ : MethodName) (head1 (Jvm.Cond.code (⟨"com/example/quantpath/quantpath/count/Budget", "spend", "(I)V"⟩ : MethodName) prog_6_method_3_code 2 none :: ws) ({ frames := 0, cells := 0, slots := 0, locals := 0 } : Room)) (fun a U => a = #[(.ref a1), (.int p1)] ∧ Z.Warmed39 U.vm ∧ U.heap = h0) (fun _ _ _ _ _ => True) (fun _ U o U' => OwnEnd U (fun v h L => v = none ∧ Fr n0 L ∧ Keep h0 h [a1] ∧ Fld Z h a1 "com/example/quantpath/quantpath/count/Budget" "left" "J" (.long (r - p1.toInt64))) ({ frames := 0, cells := 0, slots := 0, locals := 0 } : Room).cells ({ frames := 0, cells := 0, slots := 0, locals := 0 } : Room).slots o U') := by
  refine MetFree.of_bodySF (plainFor_of_name sp_pn) hisR ?_
  intro p e s m args below meth c s₁ Bd hml0 hP hK
  obtain ⟨rfl, hZ, hh⟩ := hP
  have hx := Bd.exec
  have hby := Bd.bytes
  have hml : c.maxLocals = 2 := hml0
  have hown : s.vm.findClass "com/example/quantpath/quantpath/count/Budget" = some m.cls := findClass_of_methodNamed Bd.named
  have hnm := (name_of_methodNamed Bd.named Bd.method).1
  have X0 : Stand p l e ({ frames := 0, cells := 0, slots := 0, locals := 0 } : Room) s m #[(.ref a1), (.int p1)] below meth c s₁ [] 0 0 := Stand.of_body Bd
  have e0 : s₁.heap = h0 := by rw [← hh, Bd.state]; rfl
  have N0 := Fr.nil n0
  have KP0 := Keep.refl h0 [a1]
  refine own_go (Q := (OwnEnd s (fun v h L => v = none ∧ Fr n0 L ∧ Keep h0 h [a1] ∧ Fld Z h a1 "com/example/quantpath/quantpath/count/Budget" "left" "J" (.long (r - p1.toInt64))) ({ frames := 0, cells := 0, slots := 0, locals := 0 } : Room).cells ({ frames := 0, cells := 0, slots := 0, locals := 0 } : Room).slots)) ?_
  refine own_back (fun t k => castTop (sp_ef m a1 p1) k) ?_
  show OwnGo p e below (s₁.setTop (mkF m 0 #[.val (.ref a1), .val (.int p1)] [])) _
  refine own_back (fun t k => XS.aloadN X0.here hx rfl (hb hby sp_d0) rfl rfl k) ?_
  show OwnGo p e below (s₁.setTop (mkF m 1 #[.val (.ref a1), .val (.int p1)] [(.ref a1)])) _
  obtain ⟨T271, X271, e271, st271⟩ := getF X0 hx hZ hown (host := "") (Or.inl (hw _ (List.mem_of_getElem? (i := 15) rfl))) Via.refl e0 F1 (g := (mkF m 1 #[.val (.ref a1), .val (.int p1)] [(.ref a1)])) rfl rfl (hb hby sp_d1)
  refine own_back st271 ?_
  show OwnGo p e below (T271.setTop (mkF m 4 #[.val (.ref a1), .val (.int p1)] [(.long r)])) _
  refine own_back (fun t k => XS.iloadN X271.here hx rfl (hb hby sp_d4) rfl k) ?_
  show OwnGo p e below (T271.setTop (mkF m 5 #[.val (.ref a1), .val (.int p1)] [(.int p1), (.long r)])) _
  refine own_back (fun t k => XS.i2l X271.here hx rfl (hb hby sp_d5) rfl k) ?_
  show OwnGo p e below (T271.setTop (mkF m 6 #[.val (.ref a1), .val (.int p1)] [(.long p1.toInt64), (.long r)])) _
  refine own_back (fun t k => XT.lcmp X271.here hx rfl (hb hby sp_d6) rfl k) ?_
  show OwnGo p e below (T271.setTop (mkF m 7 #[.val (.ref a1), .val (.int p1)] [(.int (XT.cmpL r p1.toInt64))])) _
  refine own_back (fun t k => XS.ifYes X271.here hx rfl (pc0 := 7) (pc' := 18) rfl (hb hby sp_d7) rfl (Jvm.Free.XT.ll_ge_t hn) (by decide) (by decide) k) ?_
  show OwnGo p e below (T271.setTop (mkF m 18 #[.val (.ref a1), .val (.int p1)] [])) _
  refine own_back (fun t k => XS.aloadN X271.here hx rfl (hb hby sp_d18) rfl rfl k) ?_
  show OwnGo p e below (T271.setTop (mkF m 19 #[.val (.ref a1), .val (.int p1)] [(.ref a1)])) _
  refine own_back (fun t k => XS.dup X271.here hx rfl (hb hby sp_d19) rfl rfl k) ?_
  show OwnGo p e below (T271.setTop (mkF m 20 #[.val (.ref a1), .val (.int p1)] [(.ref a1), (.ref a1)])) _
  obtain ⟨T272, X272, e272, st272⟩ := getF X271 hx hZ hown (host := "") (Or.inl (hw _ (List.mem_of_getElem? (i := 15) rfl))) Via.refl e271 F1 (g := (mkF m 20 #[.val (.ref a1), .val (.int p1)] [(.ref a1), (.ref a1)])) rfl rfl (hb hby sp_d20)
  refine own_back st272 ?_
  show OwnGo p e below (T272.setTop (mkF m 23 #[.val (.ref a1), .val (.int p1)] [(.long r), (.ref a1)])) _
  refine own_back (fun t k => XS.iloadN X272.here hx rfl (hb hby sp_d23) rfl k) ?_
  show OwnGo p e below (T272.setTop (mkF m 24 #[.val (.ref a1), .val (.int p1)] [(.int p1), (.long r), (.ref a1)])) _
  refine own_back (fun t k => XS.i2l X272.here hx rfl (hb hby sp_d24) rfl k) ?_
  show OwnGo p e below (T272.setTop (mkF m 25 #[.val (.ref a1), .val (.int p1)] [(.long p1.toInt64), (.long r), (.ref a1)])) _
  refine own_back (fun t k => XS.lsub X272.here hx rfl (hb hby sp_d25) rfl k) ?_
  show OwnGo p e below (T272.setTop (mkF m 26 #[.val (.ref a1), .val (.int p1)] [(.long (r - p1.toInt64)), (.ref a1)])) _
  obtain ⟨T273, h273, X273, e273, W273, st273⟩ := putF X272 hx hZ hown (host := "") (Or.inl (hw _ (List.mem_of_getElem? (i := 15) rfl))) Via.refl e272 F1 E1 (Or.inl (hw _ (List.mem_of_getElem? (i := 16) rfl))) (hw _ (List.mem_of_getElem? (i := 7) rfl)) (ty := .long) (by decide) rfl rfl (g := (mkF m 26 #[.val (.ref a1), .val (.int p1)] [(.long (r - p1.toInt64)), (.ref a1)])) rfl rfl (hb hby sp_d26)
  have O274 := OL.wr W273 g1
  have KP275 := KP0.wr W273 (Or.inl (List.mem_of_getElem? (i := 0) rfl))
  have Zs276 := Nat.le_trans Z0 (Keep.of_wr W273).1
  have f277 := E1.wr W273
  have F278 := F1.same W273
  have N279 := Fr.snoc X273 N0 g1
  refine own_back st273 ?_
  show OwnGo p e below (T273.setTop (mkF m 29 #[.val (.ref a1), .val (.int p1)] [])) _
  refine own_retV X273 hx Bd.notSynchronized Bd.returns (hb hby sp_d29) e273 (Nat.le_of_ble_eq_true rfl) (Nat.le_of_ble_eq_true rfl) ?_
  exact ⟨rfl, N279, KP275, F278⟩
theorem bu_d0 : decode prog_6_method_1_code 0 = .ok (.aload_n 0, 1) := by decide +kernel
theorem bu_d1 : decode prog_6_method_1_code 1 = .ok (.invokespecial 1, 3) := by decide +kernel
theorem bu_d4 : decode prog_6_method_1_code 4 = .ok (.lload_n 1, 1) := by decide +kernel
theorem bu_d5 : decode prog_6_method_1_code 5 = .ok (.lconst 0, 1) := by decide +kernel
theorem bu_d6 : decode prog_6_method_1_code 6 = .ok (.lcmp, 1) := by decide +kernel
theorem bu_d7 : decode prog_6_method_1_code 7 = .ok (.ifCond .ge 17, 3) := by decide +kernel
theorem bu_d24 : decode prog_6_method_1_code 24 = .ok (.aload_n 0, 1) := by decide +kernel
theorem bu_d25 : decode prog_6_method_1_code 25 = .ok (.lload_n 1, 1) := by decide +kernel
theorem bu_d26 : decode prog_6_method_1_code 26 = .ok (.putfield 16, 3) := by decide +kernel
theorem bu_d29 : decode prog_6_method_1_code 29 = .ok (.return_, 1) := by decide +kernel
theorem bu_pn : plainName "com/example/quantpath/quantpath/count/Budget" = true := by first | (simp [plainName, overriddenIn]; done) | decide +kernel
theorem bu_ef (m : MethodId) (x0 : Addr) (x1 : Int64) : entryFrame m #[(.ref x0), (.long x1)] 3 = mkF m 0 #[.val (.ref x0), .val (.long x1), .second] [] := by first | (simp [entryFrame, mkF, argsToLocals, Value.category]; done) | rfl
set_option maxRecDepth 65536 in
set_option maxHeartbeats 40000000 in
theorem rm_bu (l : Launch) (Z : State) (a0 : Array Value) (hw : ∀ d ∈ tables_1, d.before a0 Z = true) (ws : List Jvm.Cond) (a1 : Addr) (q : Int64) (r : Int64) (h0 : Heap) (n0 : Nat) (Z0 : n0 ≤ h0.size) (OL : Old Z n0 h0) (E1 : Exa Z h0 a1 "com/example/quantpath/quantpath/count/Budget") (F1 : Fld Z h0 a1 "com/example/quantpath/quantpath/count/Budget" "left" "J" (.long r)) (g1 : n0 ≤ a1) (hn : ¬ q < 0) :
    MetFree l (⟨"com/example/quantpath/quantpath/count/Budget", "<init>", "(J)V"⟩ : MethodName) (head1 (Jvm.Cond.code (⟨"com/example/quantpath/quantpath/count/Budget", "<init>", "(J)V"⟩ : MethodName) prog_6_method_1_code 3 none :: ws) ({ frames := 1, cells := 0, slots := 0, locals := 12 } : Room)) (fun a U => a = #[(.ref a1), (.long q)] ∧ Z.Warmed39 U.vm ∧ U.heap = h0) (fun _ _ _ _ _ => True) (fun _ U o U' => OwnEnd U (fun v h L => v = none ∧ Fr n0 L ∧ Keep h0 h [a1] ∧ Fld Z h a1 "com/example/quantpath/quantpath/count/Budget" "left" "J" (.long q)) ({ frames := 1, cells := 0, slots := 0, locals := 12 } : Room).cells ({ frames := 1, cells := 0, slots := 0, locals := 12 } : Room).slots o U') := by
  refine MetFree.of_bodySF (plainFor_of_name bu_pn) hisR ?_
  intro p e s m args below meth c s₁ Bd hml0 hP hK
  obtain ⟨rfl, hZ, hh⟩ := hP
  have hx := Bd.exec
  have hby := Bd.bytes
  have hml : c.maxLocals = 3 := hml0
  have hown : s.vm.findClass "com/example/quantpath/quantpath/count/Budget" = some m.cls := findClass_of_methodNamed Bd.named
  have hnm := (name_of_methodNamed Bd.named Bd.method).1
  have X0 : Stand p l e ({ frames := 1, cells := 0, slots := 0, locals := 12 } : Room) s m #[(.ref a1), (.long q)] below meth c s₁ [] 0 0 := Stand.of_body Bd
  have e0 : s₁.heap = h0 := by rw [← hh, Bd.state]; rfl
  have N0 := Fr.nil n0
  have KP0 := Keep.refl h0 [a1]
  refine own_go (Q := (OwnEnd s (fun v h L => v = none ∧ Fr n0 L ∧ Keep h0 h [a1] ∧ Fld Z h a1 "com/example/quantpath/quantpath/count/Budget" "left" "J" (.long q)) ({ frames := 1, cells := 0, slots := 0, locals := 12 } : Room).cells ({ frames := 1, cells := 0, slots := 0, locals := 12 } : Room).slots)) ?_
  refine own_back (fun t k => castTop (bu_ef m a1 q) k) ?_
  show OwnGo p e below (s₁.setTop (mkF m 0 #[.val (.ref a1), .val (.long q), .second] [])) _
  refine own_back (fun t k => XS.aloadN X0.here hx rfl (hb hby bu_d0) rfl rfl k) ?_
  show OwnGo p e below (s₁.setTop (mkF m 1 #[.val (.ref a1), .val (.long q), .second] [(.ref a1)])) _
  obtain ⟨T280, X280, e280, st280⟩ := initO X0 hx hZ hown (hw _ (List.mem_of_getElem? (i := 12) rfl)) (hw _ (List.mem_of_getElem? (i := 13) rfl)) (hw _ (List.mem_of_getElem? (i := 14) rfl)) e0 (g := (mkF m 1 #[.val (.ref a1), .val (.long q), .second] [(.ref a1)])) rfl (by rw [hml]; rfl) rfl (hb hby bu_d1) (by decide) (W := 0) (by show 2 * 0 + _ ≤ _; exact Nat.le_of_eq rfl) (by decide)
  refine own_back st280 ?_
  show OwnGo p e below (T280.setTop (mkF m 4 #[.val (.ref a1), .val (.long q), .second] [])) _
  refine own_back (fun t k => XS.lloadN X280.here hx rfl (hb hby bu_d4) rfl k) ?_
  show OwnGo p e below (T280.setTop (mkF m 5 #[.val (.ref a1), .val (.long q), .second] [(.long q)])) _
  refine own_back (fun t k => XS.lconst X280.here hx rfl (hb hby bu_d5) k) ?_
  show OwnGo p e below (T280.setTop (mkF m 6 #[.val (.ref a1), .val (.long q), .second] [(.long (0 : Int64)), (.long q)])) _
  refine own_back (fun t k => XT.lcmp X280.here hx rfl (hb hby bu_d6) rfl k) ?_
  show OwnGo p e below (T280.setTop (mkF m 7 #[.val (.ref a1), .val (.long q), .second] [(.int (XT.cmpL q (0 : Int64)))])) _
  refine own_back (fun t k => XS.ifYes X280.here hx rfl (pc0 := 7) (pc' := 24) rfl (hb hby bu_d7) rfl (Jvm.Free.XT.ll_ge_t hn) (by decide) (by decide) k) ?_
  show OwnGo p e below (T280.setTop (mkF m 24 #[.val (.ref a1), .val (.long q), .second] [])) _
  refine own_back (fun t k => XS.aloadN X280.here hx rfl (hb hby bu_d24) rfl rfl k) ?_
  show OwnGo p e below (T280.setTop (mkF m 25 #[.val (.ref a1), .val (.long q), .second] [(.ref a1)])) _
  refine own_back (fun t k => XS.lloadN X280.here hx rfl (hb hby bu_d25) rfl k) ?_
  show OwnGo p e below (T280.setTop (mkF m 26 #[.val (.ref a1), .val (.long q), .second] [(.long q), (.ref a1)])) _
  obtain ⟨T281, h281, X281, e281, W281, st281⟩ := putF X280 hx hZ hown (host := "") (Or.inl (hw _ (List.mem_of_getElem? (i := 15) rfl))) Via.refl e280 F1 E1 (Or.inl (hw _ (List.mem_of_getElem? (i := 16) rfl))) (hw _ (List.mem_of_getElem? (i := 7) rfl)) (ty := .long) (by decide) rfl rfl (g := (mkF m 26 #[.val (.ref a1), .val (.long q), .second] [(.long q), (.ref a1)])) rfl rfl (hb hby bu_d26)
  have O282 := OL.wr W281 g1
  have KP283 := KP0.wr W281 (Or.inl (List.mem_of_getElem? (i := 0) rfl))
  have Zs284 := Nat.le_trans Z0 (Keep.of_wr W281).1
  have f285 := E1.wr W281
  have F286 := F1.same W281
  have N287 := Fr.snoc X281 N0 g1
  refine own_back st281 ?_
  show OwnGo p e below (T281.setTop (mkF m 29 #[.val (.ref a1), .val (.long q), .second] [])) _
  refine own_retV X281 hx Bd.notSynchronized Bd.returns (hb hby bu_d29) e281 (Nat.le_of_ble_eq_true rfl) (Nat.le_of_ble_eq_true rfl) ?_
  exact ⟨rfl, N287, KP283, F286⟩
def own_min (x y : Int64) : Int64 := if y < x then y else x
theorem mi_d0 : decode jdk_29_method_70_code 0 = .ok (.lload_n 0, 1) := by decide +kernel
theorem mi_d1 : decode jdk_29_method_70_code 1 = .ok (.lload_n 2, 1) := by decide +kernel
theorem mi_d2 : decode jdk_29_method_70_code 2 = .ok (.lcmp, 1) := by decide +kernel
theorem mi_d3 : decode jdk_29_method_70_code 3 = .ok (.ifCond .gt 7, 3) := by decide +kernel
theorem mi_d6 : decode jdk_29_method_70_code 6 = .ok (.lload_n 0, 1) := by decide +kernel
theorem mi_d7 : decode jdk_29_method_70_code 7 = .ok (.goto 4, 3) := by decide +kernel
theorem mi_d10 : decode jdk_29_method_70_code 10 = .ok (.lload_n 2, 1) := by decide +kernel
theorem mi_d11 : decode jdk_29_method_70_code 11 = .ok (.lreturn, 1) := by decide +kernel
theorem mi_ef (m : MethodId) (x0 : Int64) (x1 : Int64) : entryFrame m #[(.long x0), (.long x1)] 4 = mkF m 0 #[.val (.long x0), .second, .val (.long x1), .second] [] := by first | (simp [entryFrame, mkF, argsToLocals, Value.category]; done) | rfl
set_option maxRecDepth 65536 in
set_option maxHeartbeats 40000000 in
theorem rm_mi (l : Launch) (Z : State) (a0 : Array Value) (hw : ∀ d ∈ tables_1, d.before a0 Z = true) (ws : List Jvm.Cond) (q1 : Int64) (q2 : Int64) (h0 : Heap) (n0 : Nat) (Z0 : n0 ≤ h0.size)  :
    MetFree l (⟨"java/lang/Math", "min", "(JJ)J"⟩ : MethodName) (head1 (Jvm.Cond.code (⟨"java/lang/Math", "min", "(JJ)J"⟩ : MethodName) jdk_29_method_70_code 4 (some .long) :: ws) ({ frames := 0, cells := 0, slots := 0, locals := 0 } : Room)) (fun a U => a = #[(.long q1), (.long q2)] ∧ Z.Warmed39 U.vm ∧ U.heap = h0) (fun _ _ _ _ _ => True) (fun _ U o U' => OwnEnd U (fun v h L => v = some (.long (own_min q1 q2)) ∧ Fr n0 L ∧ h = h0) ({ frames := 0, cells := 0, slots := 0, locals := 0 } : Room).cells ({ frames := 0, cells := 0, slots := 0, locals := 0 } : Room).slots o U') := by
  refine MetFree.of_bodySF (Jvm.Free.JP.mathPlain rfl (by decide +kernel)) hisR ?_
  intro p e s m args below meth c s₁ Bd hml0 hP hK
  obtain ⟨rfl, hZ, hh⟩ := hP
  have hx := Bd.exec
  have hby := Bd.bytes
  have hml : c.maxLocals = 4 := hml0
  have hown : s.vm.findClass "java/lang/Math" = some m.cls := findClass_of_methodNamed Bd.named
  have hnm := (name_of_methodNamed Bd.named Bd.method).1
  have X0 : Stand p l e ({ frames := 0, cells := 0, slots := 0, locals := 0 } : Room) s m #[(.long q1), (.long q2)] below meth c s₁ [] 0 0 := Stand.of_body Bd
  have e0 : s₁.heap = h0 := by rw [← hh, Bd.state]; rfl
  have N0 := Fr.nil n0
  have KP0 := Keep.refl h0 []
  refine own_go (Q := (OwnEnd s (fun v h L => v = some (.long (own_min q1 q2)) ∧ Fr n0 L ∧ h = h0) ({ frames := 0, cells := 0, slots := 0, locals := 0 } : Room).cells ({ frames := 0, cells := 0, slots := 0, locals := 0 } : Room).slots)) ?_
  refine own_back (fun t k => castTop (mi_ef m q1 q2) k) ?_
  show OwnGo p e below (s₁.setTop (mkF m 0 #[.val (.long q1), .second, .val (.long q2), .second] [])) _
  refine own_back (fun t k => XS.lloadN X0.here hx rfl (hb hby mi_d0) rfl k) ?_
  show OwnGo p e below (s₁.setTop (mkF m 1 #[.val (.long q1), .second, .val (.long q2), .second] [(.long q1)])) _
  refine own_back (fun t k => XS.lloadN X0.here hx rfl (hb hby mi_d1) rfl k) ?_
  show OwnGo p e below (s₁.setTop (mkF m 2 #[.val (.long q1), .second, .val (.long q2), .second] [(.long q2), (.long q1)])) _
  refine own_back (fun t k => XT.lcmp X0.here hx rfl (hb hby mi_d2) rfl k) ?_
  show OwnGo p e below (s₁.setTop (mkF m 3 #[.val (.long q1), .second, .val (.long q2), .second] [(.int (XT.cmpL q1 q2))])) _
  by_cases hc3_288 : q2 < q1
  · refine own_back (fun t k => XS.ifYes X0.here hx rfl (pc0 := 3) (pc' := 10) rfl (hb hby mi_d3) rfl (Jvm.Free.XT.ll_gt_t hc3_288) (by decide) (by decide) k) ?_
    show OwnGo p e below (s₁.setTop (mkF m 10 #[.val (.long q1), .second, .val (.long q2), .second] [])) _
    refine own_back (fun t k => XS.lloadN X0.here hx rfl (hb hby mi_d10) rfl k) ?_
    show OwnGo p e below (s₁.setTop (mkF m 11 #[.val (.long q1), .second, .val (.long q2), .second] [(.long q2)])) _
    refine own_retJ X0 hx Bd.notSynchronized Bd.returns (hb hby mi_d11) e0 (Nat.le_of_ble_eq_true rfl) (Nat.le_of_ble_eq_true rfl) ?_
    exact ⟨by rw [own_min, if_pos hc3_288], N0, rfl⟩
  · refine own_back (fun t k => XS.ifNo X0.here hx rfl (hb hby mi_d3) rfl (Jvm.Free.XT.ll_gt_f hc3_288) k) ?_
    show OwnGo p e below (s₁.setTop (mkF m 6 #[.val (.long q1), .second, .val (.long q2), .second] [])) _
    refine own_back (fun t k => XS.lloadN X0.here hx rfl (hb hby mi_d6) rfl k) ?_
    show OwnGo p e below (s₁.setTop (mkF m 7 #[.val (.long q1), .second, .val (.long q2), .second] [(.long q1)])) _
    refine own_back (fun t k => XS.goto X0.here hx rfl (pc0 := 7) (pc' := 11) rfl (hb hby mi_d7) (by decide) (by decide) k) ?_
    show OwnGo p e below (s₁.setTop (mkF m 11 #[.val (.long q1), .second, .val (.long q2), .second] [(.long q1)])) _
    refine own_retJ X0 hx Bd.notSynchronized Bd.returns (hb hby mi_d11) e0 (Nat.le_of_ble_eq_true rfl) (Nat.le_of_ble_eq_true rfl) ?_
    exact ⟨by rw [own_min, if_neg hc3_288], N0, rfl⟩
theorem own_irr (r : Int64) : ¬ r < r := by rw [Int64.lt_iff_toInt_lt]; omega
theorem own_add1 {r : Int64} (n : ¬ r < 0) (h : ¬ r = (9223372036854775807 : Int64)) : (r + 1).toInt = r.toInt + 1 := by
  have h1 := c_ladd r 1
  have h2 : (1 : Int64).toInt = 1 := rfl
  have h3 := r.toInt_lt
  have h4 := (r + 1).toInt_lt
  have h5 := (r + 1).le_toInt
  have h6 : r.toInt ≠ 9223372036854775807 := fun e => h (Int64.toInt_inj.mp e)
  rw [Int64.lt_iff_toInt_lt] at n
  have z : (0 : Int64).toInt = 0 := rfl
  omega
theorem own_suc {r : Int64} (n : ¬ r < 0) (h : ¬ r = (9223372036854775807 : Int64)) : ¬ (r + (1 : Int64)) < 0 := by
  have := own_add1 n h
  rw [Int64.lt_iff_toInt_lt] at *
  have z : (0 : Int64).toInt = 0 := rfl
  omega
theorem own_suclt {r : Int64} (n : ¬ r < 0) (h : ¬ r = (9223372036854775807 : Int64)) : r < r + (1 : Int64) := by
  have := own_add1 n h
  rw [Int64.lt_iff_toInt_lt]
  omega
theorem ex_d0 : decode method_3_code 0 = .ok (.aload_n 0, 1) := by decide +kernel
theorem ex_d1 : decode method_3_code 1 = .ok (.lload_n 1, 1) := by decide +kernel
theorem ex_d2 : decode method_3_code 2 = .ok (.invokestatic 38, 3) := by decide +kernel
theorem ex_d5 : decode method_3_code 5 = .ok (.invokevirtual 44, 3) := by decide +kernel
theorem ex_d8 : decode method_3_code 8 = .ok (.ifCond .ne 5, 3) := by decide +kernel
theorem ex_d13 : decode method_3_code 13 = .ok (.lload_n 1, 1) := by decide +kernel
theorem ex_d14 : decode method_3_code 14 = .ok (.ldc2_w 13, 3) := by decide +kernel
theorem ex_d17 : decode method_3_code 17 = .ok (.lcmp, 1) := by decide +kernel
theorem ex_d18 : decode method_3_code 18 = .ok (.ifCond .ne 5, 3) := by decide +kernel
theorem ex_d21 : decode method_3_code 21 = .ok (.iconst 1, 1) := by decide +kernel
theorem ex_d22 : decode method_3_code 22 = .ok (.ireturn, 1) := by decide +kernel
theorem ex_d23 : decode method_3_code 23 = .ok (.aload_n 0, 1) := by decide +kernel
theorem ex_d24 : decode method_3_code 24 = .ok (.lload_n 1, 1) := by decide +kernel
theorem ex_d25 : decode method_3_code 25 = .ok (.lconst 1, 1) := by decide +kernel
theorem ex_d26 : decode method_3_code 26 = .ok (.ladd, 1) := by decide +kernel
theorem ex_d27 : decode method_3_code 27 = .ok (.invokestatic 38, 3) := by decide +kernel
theorem ex_d30 : decode method_3_code 30 = .ok (.invokevirtual 44, 3) := by decide +kernel
theorem ex_d33 : decode method_3_code 33 = .ok (.ifCond .ne 7, 3) := by decide +kernel
theorem ex_d36 : decode method_3_code 36 = .ok (.iconst 1, 1) := by decide +kernel
theorem ex_d37 : decode method_3_code 37 = .ok (.goto 4, 3) := by decide +kernel
theorem ex_d41 : decode method_3_code 41 = .ok (.ireturn, 1) := by decide +kernel
theorem ex_pn : plainName "com/example/quantpath/quantpath/count/BudgetSpendPinLaw" = true := by first | (simp [plainName, overriddenIn]; done) | decide +kernel
theorem ex_pd0 : parseMethodDescriptor "(J)Ljava/math/BigInteger;" = some ⟨[.long], some (.object "java/math/BigInteger")⟩ := by decide +kernel
theorem ex_pd1 : parseMethodDescriptor "(Ljava/math/BigInteger;)Z" = some ⟨[(.object "java/math/BigInteger")], some .boolean⟩ := by decide +kernel
theorem ex_ef (m : MethodId) (x0 : Addr) (x1 : Int64) : entryFrame m #[(.ref x0), (.long x1)] 3 = mkF m 0 #[.val (.ref x0), .val (.long x1), .second] [] := by first | (simp [entryFrame, mkF, argsToLocals, Value.category]; done) | rfl
set_option maxRecDepth 65536 in
set_option maxHeartbeats 40000000 in
theorem rm_ex (l : Launch) (Z : State) (a0 : Array Value) (hw : ∀ d ∈ tables_1, d.before a0 Z = true) (ws : List Jvm.Cond) (a1 : Addr) (r : Int64) (wz : Addr) (wp : Addr) (cp : Cell) (h0 : Heap) (n0 : Nat) (Z0 : n0 ≤ h0.size) (OL : Old Z n0 h0) (SZ : Sta Z Z.heap "java/math/BigInteger" "ZERO" "Ljava/math/BigInteger;" (.ref wz)) (SP : Sta Z Z.heap "java/math/BigInteger" "posConst" "[Ljava/math/BigInteger;" (.ref wp)) (BZ : OwnBig Z Z.heap wz 0) (AP : Arr Z Z.heap wp cp (.object "java/math/BigInteger")) (nP : cp.slots.size = 17) (HP : ∀ r : Int64, 0 < r → ¬ 16 < r → ∃ a, cp.slots[r.toInt32.toNatClampNeg]? = some (.ref a) ∧ OwnBig Z Z.heap a r) (E1 : Exa Z h0 a1 "com/example/quantpath/quantpath/count/Budget") (F1 : Fld Z h0 a1 "com/example/quantpath/quantpath/count/Budget" "left" "J" (.long r)) (nr : ¬ r < 0) :
    MetFree l (⟨"com/example/quantpath/quantpath/count/BudgetSpendPinLaw", "exactly", "(Lcom/example/quantpath/quantpath/count/Budget;J)Z"⟩ : MethodName) (head1 (Jvm.Cond.code (⟨"com/example/quantpath/quantpath/count/BudgetSpendPinLaw", "exactly", "(Lcom/example/quantpath/quantpath/count/Budget;J)Z"⟩ : MethodName) method_3_code 3 (some .boolean) :: ws) ({ frames := 5, cells := 8, slots := 32, locals := 140 } : Room)) (fun a U => a = #[(.ref a1), (.long r)] ∧ Z.Warmed39 U.vm ∧ U.heap = h0) (fun _ _ _ _ _ => True) (fun _ U o U' => OwnEnd U (fun v h L => v = some (.int 1) ∧ Fr n0 L ∧ Ext h0 h) ({ frames := 5, cells := 8, slots := 32, locals := 140 } : Room).cells ({ frames := 5, cells := 8, slots := 32, locals := 140 } : Room).slots o U') := by
  refine MetFree.of_bodySF (plainFor_of_name ex_pn) hisR ?_
  intro p e s m args below meth c s₁ Bd hml0 hP hK
  obtain ⟨rfl, hZ, hh⟩ := hP
  have hx := Bd.exec
  have hby := Bd.bytes
  have hml : c.maxLocals = 3 := hml0
  have hown : s.vm.findClass "com/example/quantpath/quantpath/count/BudgetSpendPinLaw" = some m.cls := findClass_of_methodNamed Bd.named
  have hnm := (name_of_methodNamed Bd.named Bd.method).1
  have X0 : Stand p l e ({ frames := 5, cells := 8, slots := 32, locals := 140 } : Room) s m #[(.ref a1), (.long r)] below meth c s₁ [] 0 0 := Stand.of_body Bd
  have e0 : s₁.heap = h0 := by rw [← hh, Bd.state]; rfl
  have N0 := Fr.nil n0
  have KP0 := Keep.refl h0 []
  refine own_go (Q := (OwnEnd s (fun v h L => v = some (.int 1) ∧ Fr n0 L ∧ Ext h0 h) ({ frames := 5, cells := 8, slots := 32, locals := 140 } : Room).cells ({ frames := 5, cells := 8, slots := 32, locals := 140 } : Room).slots)) ?_
  refine own_back (fun t k => castTop (ex_ef m a1 r) k) ?_
  show OwnGo p e below (s₁.setTop (mkF m 0 #[.val (.ref a1), .val (.long r), .second] [])) _
  refine own_back (fun t k => XS.aloadN X0.here hx rfl (hb hby ex_d0) rfl rfl k) ?_
  show OwnGo p e below (s₁.setTop (mkF m 1 #[.val (.ref a1), .val (.long r), .second] [(.ref a1)])) _
  refine own_back (fun t k => XS.lloadN X0.here hx rfl (hb hby ex_d1) rfl k) ?_
  show OwnGo p e below (s₁.setTop (mkF m 2 #[.val (.ref a1), .val (.long r), .second] [(.long r), (.ref a1)])) _
  obtain ⟨_, _, ⟨T289, L289, k289, n289⟩, -, X289, ⟨Lc289, hQ289, l289, y289, z289⟩, st289⟩ := Jvm.LawKit.callS X0 hx (y := (⟨"java/math/BigInteger", "valueOf", "(J)Ljava/math/BigInteger;"⟩ : MethodName)) hown (mvT hZ (hw _ (List.mem_of_getElem? (i := 26) rfl))) (mvT hZ (hw _ (List.mem_of_getElem? (i := 27) rfl))) (mvT hZ (hw _ (List.mem_of_getElem? (i := 28) rfl))) (mvT hZ (hw _ (List.mem_of_getElem? (i := 29) rfl))) (by decide) (own_backN (W := 1) (rm_vo l Z a0 hw [] r wz wp cp h0 n0 Z0 OL SZ SP BZ AP nP HP nr) hZ (hw _ (List.mem_of_getElem? (i := 29) rfl)) (hw _ (List.mem_of_getElem? (i := 28) rfl)) (by decide) (by decide)) (g := (mkF m 2 #[.val (.ref a1), .val (.long r), .second] [(.long r), (.ref a1)])) rfl (by rw [hml]; rfl) (argsL := [(.long r)]) (rest := [(.ref a1)]) (lenOf ex_pd0 rfl) rfl (by show 2 * 0 + _ ≤ _; exact Nat.le_of_eq rfl) (hb hby ex_d2) (fun _ _ => ⟨rfl, e0, Nat.le_of_ble_eq_true rfl, Nat.le_of_ble_eq_true rfl⟩)
  dsimp only [Pt.U, Pt.locs, Pt.cells, Pt.slots] at X289 l289 y289 z289 st289 hQ289
  subst l289 y289 z289
  obtain ⟨ab289, rfl, N289q, E289, B289⟩ := hQ289
  refine own_back st289 ?_
  have N289 := Fr.app N0 N289q
  have O290 := OL.ext E289
  have KP291 := KP0.ext E289
  have Zs292 := Nat.le_trans Z0 E289.1
  have f293 := E1.ext E289
  have f294 := F1.ext E289
  show OwnGo p e below (T289.setTop (mkF m 5 #[.val (.ref a1), .val (.long r), .second] [(.ref ab289), (.ref a1)])) _
  obtain ⟨cq295, kq295, q295a, q295b, q295c⟩ := isOf hZ rfl f293
  obtain ⟨_, _, ⟨T295, L295, k295, n295⟩, -, X295, ⟨Lc295, hQ295, l295, y295, z295⟩, st295⟩ := X289.virtualBack hx (y := (⟨"com/example/quantpath/quantpath/count/Budget", "holds", "(Ljava/math/BigInteger;)Z"⟩ : MethodName)) (z := (⟨"com/example/quantpath/quantpath/count/Budget", "holds", "(Ljava/math/BigInteger;)Z"⟩ : MethodName)) hown (mvT hZ (hw _ (List.mem_of_getElem? (i := 32) rfl))) (mvT hZ (hw _ (List.mem_of_getElem? (i := 33) rfl))) (notFace_of_selects (args := #[]) (mvT hZ (hw _ (List.mem_of_getElem? (i := 35) rfl)))) (mvT hZ (hw _ (List.mem_of_getElem? (i := 35) rfl))) (mvT hZ (hw _ (List.mem_of_getElem? (i := 34) rfl))) (by decide) (own_backN (W := 0) (rm_ho l Z a0 hw [] a1 ab289 r r wz wp cp T289.heap n0 Zs292 O290 SZ SP BZ AP nP HP f294 B289 nr nr) hZ (hw _ (List.mem_of_getElem? (i := 36) rfl)) (hw _ (List.mem_of_getElem? (i := 8) rfl)) (by decide) (by decide)) q295a q295c (g := (mkF m 5 #[.val (.ref a1), .val (.long r), .second] [(.ref ab289), (.ref a1)])) rfl (by rw [hml]; rfl) (Steps.refl _) (argsL := [(.ref ab289)]) (rest := []) (lenOf ex_pd1 rfl) rfl (by show 2 * 0 + _ ≤ _; exact Nat.le_of_eq rfl) (hb hby ex_d5) (fun _ _ => ⟨rfl, rfl, Nat.le_of_ble_eq_true rfl, Nat.le_of_ble_eq_true rfl⟩)
  dsimp only [Pt.U, Pt.locs, Pt.cells, Pt.slots] at X295 l295 y295 z295 st295 hQ295
  subst l295 y295 z295
  rw [if_neg (own_irr r)] at hQ295
  obtain ⟨rfl, N295q, E295⟩ := hQ295
  refine own_seq st295 ?_
  have N295 := Fr.app N289 N295q
  have O296 := O290.ext E295
  have KP297 := KP291.ext E295
  have Zs298 := Nat.le_trans Zs292 E295.1
  have f299 := f293.ext E295
  have f300 := f294.ext E295
  have f301 := B289.exa.ext E295
  show OwnGo p e below (T295.setTop (mkF m 8 #[.val (.ref a1), .val (.long r), .second] [(.int (1 : Int32))])) _
  refine own_back (fun t k => XS.ifYes X295.here hx rfl (pc0 := 8) (pc' := 13) rfl (hb hby ex_d8) rfl (Jvm.Free.XT.i0_ne_t (by decide)) (by decide) (by decide) k) ?_
  show OwnGo p e below (T295.setTop (mkF m 13 #[.val (.ref a1), .val (.long r), .second] [])) _
  refine own_back (fun t k => XS.lloadN X295.here hx rfl (hb hby ex_d13) rfl k) ?_
  show OwnGo p e below (T295.setTop (mkF m 14 #[.val (.ref a1), .val (.long r), .second] [(.long r)])) _
  refine own_back (fun t k => X295.ldc2Long hx hown (mvT hZ (hw _ (List.mem_of_getElem? (i := 1) rfl))) (g := (mkF m 14 #[.val (.ref a1), .val (.long r), .second] [(.long r)])) rfl (hb hby ex_d14) t k) ?_
  show OwnGo p e below (T295.setTop (mkF m 17 #[.val (.ref a1), .val (.long r), .second] [(.long (9223372036854775807 : Int64)), (.long r)])) _
  refine own_back (fun t k => XT.lcmp X295.here hx rfl (hb hby ex_d17) rfl k) ?_
  show OwnGo p e below (T295.setTop (mkF m 18 #[.val (.ref a1), .val (.long r), .second] [(.int (XT.cmpL r (9223372036854775807 : Int64)))])) _
  by_cases hc18_302 : r = (9223372036854775807 : Int64)
  · refine own_back (fun t k => XS.ifNo X295.here hx rfl (hb hby ex_d18) rfl (Jvm.Free.XT.ll_ne_f hc18_302) k) ?_
    show OwnGo p e below (T295.setTop (mkF m 21 #[.val (.ref a1), .val (.long r), .second] [])) _
    refine own_back (fun t k => XS.iconst X295.here hx rfl (hb hby ex_d21) k) ?_
    show OwnGo p e below (T295.setTop (mkF m 22 #[.val (.ref a1), .val (.long r), .second] [(.int (1 : Int32))])) _
    refine own_retN X295 hx Bd.notSynchronized (t := .boolean) (z := (1 : Int32)) Bd.returns (by simp) rfl (hb hby ex_d22) rfl (Nat.le_of_ble_eq_true rfl) (Nat.le_of_ble_eq_true rfl) ?_
    exact ⟨rfl, N295, own_ext KP297⟩
  · refine own_back (fun t k => XS.ifYes X295.here hx rfl (pc0 := 18) (pc' := 23) rfl (hb hby ex_d18) rfl (Jvm.Free.XT.ll_ne_t hc18_302) (by decide) (by decide) k) ?_
    show OwnGo p e below (T295.setTop (mkF m 23 #[.val (.ref a1), .val (.long r), .second] [])) _
    refine own_back (fun t k => XS.aloadN X295.here hx rfl (hb hby ex_d23) rfl rfl k) ?_
    show OwnGo p e below (T295.setTop (mkF m 24 #[.val (.ref a1), .val (.long r), .second] [(.ref a1)])) _
    refine own_back (fun t k => XS.lloadN X295.here hx rfl (hb hby ex_d24) rfl k) ?_
    show OwnGo p e below (T295.setTop (mkF m 25 #[.val (.ref a1), .val (.long r), .second] [(.long r), (.ref a1)])) _
    refine own_back (fun t k => XS.lconst X295.here hx rfl (hb hby ex_d25) k) ?_
    show OwnGo p e below (T295.setTop (mkF m 26 #[.val (.ref a1), .val (.long r), .second] [(.long (1 : Int64)), (.long r), (.ref a1)])) _
    refine own_back (fun t k => XS.ladd X295.here hx rfl (hb hby ex_d26) rfl k) ?_
    show OwnGo p e below (T295.setTop (mkF m 27 #[.val (.ref a1), .val (.long r), .second] [(.long (r + (1 : Int64))), (.ref a1)])) _
    obtain ⟨_, _, ⟨T303, L303, k303, n303⟩, -, X303, ⟨Lc303, hQ303, l303, y303, z303⟩, st303⟩ := Jvm.LawKit.callS X295 hx (y := (⟨"java/math/BigInteger", "valueOf", "(J)Ljava/math/BigInteger;"⟩ : MethodName)) hown (mvT hZ (hw _ (List.mem_of_getElem? (i := 26) rfl))) (mvT hZ (hw _ (List.mem_of_getElem? (i := 27) rfl))) (mvT hZ (hw _ (List.mem_of_getElem? (i := 28) rfl))) (mvT hZ (hw _ (List.mem_of_getElem? (i := 29) rfl))) (by decide) (own_backN (W := 1) (rm_vo l Z a0 hw [] (r + (1 : Int64)) wz wp cp T295.heap n0 Zs298 O296 SZ SP BZ AP nP HP (own_suc nr hc18_302)) hZ (hw _ (List.mem_of_getElem? (i := 29) rfl)) (hw _ (List.mem_of_getElem? (i := 28) rfl)) (by decide) (by decide)) (g := (mkF m 27 #[.val (.ref a1), .val (.long r), .second] [(.long (r + (1 : Int64))), (.ref a1)])) rfl (by rw [hml]; rfl) (argsL := [(.long (r + (1 : Int64)))]) (rest := [(.ref a1)]) (lenOf ex_pd0 rfl) rfl (by show 2 * 0 + _ ≤ _; exact Nat.le_of_eq rfl) (hb hby ex_d27) (fun _ _ => ⟨rfl, rfl, Nat.le_of_ble_eq_true rfl, Nat.le_of_ble_eq_true rfl⟩)
    dsimp only [Pt.U, Pt.locs, Pt.cells, Pt.slots] at X303 l303 y303 z303 st303 hQ303
    subst l303 y303 z303
    obtain ⟨ab303, rfl, N303q, E303, B303⟩ := hQ303
    refine own_back st303 ?_
    have N303 := Fr.app N295 N303q
    have O304 := O296.ext E303
    have KP305 := KP297.ext E303
    have Zs306 := Nat.le_trans Zs298 E303.1
    have f307 := f299.ext E303
    have f308 := f300.ext E303
    have f309 := f301.ext E303
    show OwnGo p e below (T303.setTop (mkF m 30 #[.val (.ref a1), .val (.long r), .second] [(.ref ab303), (.ref a1)])) _
    obtain ⟨cq310, kq310, q310a, q310b, q310c⟩ := isOf hZ rfl f307
    obtain ⟨_, _, ⟨T310, L310, k310, n310⟩, -, X310, ⟨Lc310, hQ310, l310, y310, z310⟩, st310⟩ := X303.virtualBack hx (y := (⟨"com/example/quantpath/quantpath/count/Budget", "holds", "(Ljava/math/BigInteger;)Z"⟩ : MethodName)) (z := (⟨"com/example/quantpath/quantpath/count/Budget", "holds", "(Ljava/math/BigInteger;)Z"⟩ : MethodName)) hown (mvT hZ (hw _ (List.mem_of_getElem? (i := 32) rfl))) (mvT hZ (hw _ (List.mem_of_getElem? (i := 33) rfl))) (notFace_of_selects (args := #[]) (mvT hZ (hw _ (List.mem_of_getElem? (i := 35) rfl)))) (mvT hZ (hw _ (List.mem_of_getElem? (i := 35) rfl))) (mvT hZ (hw _ (List.mem_of_getElem? (i := 34) rfl))) (by decide) (own_backN (W := 0) (rm_ho l Z a0 hw [] a1 ab303 r (r + (1 : Int64)) wz wp cp T303.heap n0 Zs306 O304 SZ SP BZ AP nP HP f308 B303 nr (own_suc nr hc18_302)) hZ (hw _ (List.mem_of_getElem? (i := 36) rfl)) (hw _ (List.mem_of_getElem? (i := 8) rfl)) (by decide) (by decide)) q310a q310c (g := (mkF m 30 #[.val (.ref a1), .val (.long r), .second] [(.ref ab303), (.ref a1)])) rfl (by rw [hml]; rfl) (Steps.refl _) (argsL := [(.ref ab303)]) (rest := []) (lenOf ex_pd1 rfl) rfl (by show 2 * 0 + _ ≤ _; exact Nat.le_of_eq rfl) (hb hby ex_d30) (fun _ _ => ⟨rfl, rfl, Nat.le_of_ble_eq_true rfl, Nat.le_of_ble_eq_true rfl⟩)
    dsimp only [Pt.U, Pt.locs, Pt.cells, Pt.slots] at X310 l310 y310 z310 st310 hQ310
    subst l310 y310 z310
    rw [if_pos (own_suclt nr hc18_302)] at hQ310
    obtain ⟨rfl, N310q, E310⟩ := hQ310
    refine own_seq st310 ?_
    have N310 := Fr.app N303 N310q
    have O311 := O304.ext E310
    have KP312 := KP305.ext E310
    have Zs313 := Nat.le_trans Zs306 E310.1
    have f314 := f307.ext E310
    have f315 := f308.ext E310
    have f316 := f309.ext E310
    have f317 := B303.exa.ext E310
    show OwnGo p e below (T310.setTop (mkF m 33 #[.val (.ref a1), .val (.long r), .second] [(.int (0 : Int32))])) _
    refine own_back (fun t k => XS.ifNo X310.here hx rfl (hb hby ex_d33) rfl (Jvm.Free.XT.i0_ne_f (by decide)) k) ?_
    show OwnGo p e below (T310.setTop (mkF m 36 #[.val (.ref a1), .val (.long r), .second] [])) _
    refine own_back (fun t k => XS.iconst X310.here hx rfl (hb hby ex_d36) k) ?_
    show OwnGo p e below (T310.setTop (mkF m 37 #[.val (.ref a1), .val (.long r), .second] [(.int (1 : Int32))])) _
    refine own_back (fun t k => XS.goto X310.here hx rfl (pc0 := 37) (pc' := 41) rfl (hb hby ex_d37) (by decide) (by decide) k) ?_
    show OwnGo p e below (T310.setTop (mkF m 41 #[.val (.ref a1), .val (.long r), .second] [(.int (1 : Int32))])) _
    refine own_retN X310 hx Bd.notSynchronized (t := .boolean) (z := (1 : Int32)) Bd.returns (by simp) rfl (hb hby ex_d41) rfl (Nat.le_of_ble_eq_true rfl) (Nat.le_of_ble_eq_true rfl) ?_
    exact ⟨rfl, N310, own_ext KP312⟩
theorem own_mnn (x : Int32) : ¬ (x.toInt64 &&& (2147483647 : Int64)) < 0 ∧ ¬ (2147483647 : Int64) < (x.toInt64 &&& (2147483647 : Int64)) := by
  have h := c_maskL x.toInt64 2147483647 31 (by decide) (by decide)
  have e : ((2 ^ 31 : Nat) : Int) = 2147483648 := by decide
  rw [e] at h
  have z1 : (2147483647 : Int64).toInt = 2147483647 := rfl
  constructor <;> rw [Int64.lt_iff_toInt_lt, h] <;> first | (rw [own_z64]; omega) | (rw [z1]; omega)
theorem own_lf1 (s : Int64) (u : Int32) : ¬ ((u.toInt64 &&& (2147483647 : Int64)) + (s &&& (3 : Int64))) < 0 := by
  have h := c_maskL u.toInt64 2147483647 31 (by decide) (by decide)
  have h2 := c_maskL s 3 2 (by decide) (by decide)
  have e : ((2 ^ 31 : Nat) : Int) = 2147483648 := by decide
  have e2 : ((2 ^ 2 : Nat) : Int) = 4 := by decide
  rw [e] at h
  rw [e2] at h2
  have h3 := c_ladd (u.toInt64 &&& (2147483647 : Int64)) (s &&& (3 : Int64))
  have h4 := ((u.toInt64 &&& (2147483647 : Int64)) + (s &&& (3 : Int64))).toInt_lt
  have h5 := ((u.toInt64 &&& (2147483647 : Int64)) + (s &&& (3 : Int64))).le_toInt
  rw [Int64.lt_iff_toInt_lt, own_z64]
  omega
theorem own_lf2 (s : Int64) : ¬ (s &&& (9223372036854775807 : Int64)) < 0 := by
  have h := c_maskL s 9223372036854775807 63 (by decide) (by decide)
  rw [Int64.lt_iff_toInt_lt, own_z64, h]
  have e : ((2 ^ 63 : Nat) : Int) = 9223372036854775808 := by decide
  rw [e]
  omega
theorem own_first {x y : Int64} (hx : ¬ x < 0) (hy : ¬ y < 0) (hb : ¬ (2147483647 : Int64) < x ∨ ¬ (2147483647 : Int64) < y) : (¬ x < (own_min x y).toInt32.toInt64 ∧ ¬ (x - (own_min x y).toInt32.toInt64) < 0) ∧ (¬ y < (own_min x y).toInt32.toInt64 ∧ ¬ (y - (own_min x y).toInt32.toInt64) < 0) := by
  have z1 : (2147483647 : Int64).toInt = 2147483647 := rfl
  have hm : 0 ≤ (own_min x y).toInt ∧ (own_min x y).toInt ≤ 2147483647 ∧ (own_min x y).toInt ≤ x.toInt ∧ (own_min x y).toInt ≤ y.toInt := by
    rw [Int64.lt_iff_toInt_lt] at hx hy
    rw [own_z64] at hx hy
    rw [Int64.lt_iff_toInt_lt, Int64.lt_iff_toInt_lt, z1] at hb
    by_cases h : y < x
    · rw [own_min, if_pos h]; rw [Int64.lt_iff_toInt_lt] at h; omega
    · rw [own_min, if_neg h]; rw [Int64.lt_iff_toInt_lt] at h; omega
  have e1 := c_l2i (own_min x y)
  have e2 := (own_min x y).toInt32.toInt_lt
  have e3 := (own_min x y).toInt32.le_toInt
  have e4 := c_i2l (own_min x y).toInt32
  have e5 := c_lsub x (own_min x y).toInt32.toInt64
  have e6 := c_lsub y (own_min x y).toInt32.toInt64
  have e7 := (x - (own_min x y).toInt32.toInt64).toInt_lt
  have e8 := (x - (own_min x y).toInt32.toInt64).le_toInt
  have e9 := (y - (own_min x y).toInt32.toInt64).toInt_lt
  have e10 := (y - (own_min x y).toInt32.toInt64).le_toInt
  have e11 := x.toInt_lt
  have e12 := y.toInt_lt
  simp only [Int64.lt_iff_toInt_lt, own_z64]
  omega
theorem lw_pn : plainName "com/example/quantpath/quantpath/count/BudgetSpendPinLaw" = true := by first | (simp [plainName, overriddenIn]; done) | decide +kernel
theorem lw_pd0 : parseMethodDescriptor "(JJ)J" = some ⟨[.long, .long], some .long⟩ := by decide +kernel
theorem lw_pd1 : parseMethodDescriptor "(J)V" = some ⟨[.long], none⟩ := by decide +kernel
theorem lw_pd2 : parseMethodDescriptor "(I)V" = some ⟨[.int], none⟩ := by decide +kernel
theorem lw_pd3 : parseMethodDescriptor "(Lcom/example/quantpath/quantpath/count/Budget;J)Z" = some ⟨[(.object "com/example/quantpath/quantpath/count/Budget"), .long], some .boolean⟩ := by decide +kernel
theorem lw_ef (m : MethodId) (x0 : Int64) (x1 : Int32) (x2 : Int32) (x3 : Int32) : entryFrame m #[(.long x0), (.int x1), (.int x2), (.int x3)] maxLocals = mkF m 0 #[.val (.long x0), .second, .val (.int x1), .val (.int x2), .val (.int x3), .unset, .unset, .unset, .unset, .unset, .unset, .unset, .unset, .unset] [] := by first | (simp [entryFrame, mkF, argsToLocals, Value.category, maxLocals]; done) | rfl
set_option maxRecDepth 65536 in
set_option maxHeartbeats 40000000 in
theorem rm_law (l : Launch) (Z : State) (a0 : Array Value) (hw : ∀ d ∈ tables_1, d.before a0 Z = true) (ws : List Jvm.Cond) (p1 : Int64) (p2 : Int32) (p3 : Int32) (p4 : Int32) (wz : Addr) (wp : Addr) (cp : Cell) (h0 : Heap) (n0 : Nat) (Z0 : n0 ≤ h0.size) (OL : Old Z n0 h0) (SZ : Sta Z Z.heap "java/math/BigInteger" "ZERO" "Ljava/math/BigInteger;" (.ref wz)) (SP : Sta Z Z.heap "java/math/BigInteger" "posConst" "[Ljava/math/BigInteger;" (.ref wp)) (BZ : OwnBig Z Z.heap wz 0) (AP : Arr Z Z.heap wp cp (.object "java/math/BigInteger")) (nP : cp.slots.size = 17) (HP : ∀ r : Int64, 0 < r → ¬ 16 < r → ∃ a, cp.slots[r.toInt32.toNatClampNeg]? = some (.ref a) ∧ OwnBig Z Z.heap a r) :
    MetFree l x (head1 (Jvm.Cond.code x code maxLocals ret :: ws) room_1) (fun a U => a = #[(.long p1), (.int p2), (.int p3), (.int p4)] ∧ Z.Warmed39 U.vm ∧ U.heap = h0) (fun _ _ _ _ _ => True) (fun _ U o U' => OwnEnd U (fun v h L => v = some (.int 1) ∧ Fr n0 L) room_1.cells room_1.slots o U') := by
  refine MetFree.of_bodySF (plainFor_of_name lw_pn) hisR ?_
  intro p e s m args below meth c s₁ Bd hml0 hP hK
  obtain ⟨rfl, hZ, hh⟩ := hP
  have hx := Bd.exec
  have hby := Bd.bytes
  have hml : c.maxLocals = 14 := hml0
  have hown : s.vm.findClass "com/example/quantpath/quantpath/count/BudgetSpendPinLaw" = some m.cls := findClass_of_methodNamed Bd.named
  have hnm := (name_of_methodNamed Bd.named Bd.method).1
  have X0 : Stand p l e room_1 s m #[(.long p1), (.int p2), (.int p3), (.int p4)] below meth c s₁ [] 0 0 := Stand.of_body Bd
  have e0 : s₁.heap = h0 := by rw [← hh, Bd.state]; rfl
  have N0 := Fr.nil n0
  have KP0 := Keep.refl h0 []
  refine own_go (Q := (OwnEnd s (fun v h L => v = some (.int 1) ∧ Fr n0 L) room_1.cells room_1.slots)) ?_
  refine own_back (fun t k => castTop (lw_ef m p1 p2 p3 p4) k) ?_
  show OwnGo p e below (s₁.setTop (mkF m 0 #[.val (.long p1), .second, .val (.int p2), .val (.int p3), .val (.int p4), .unset, .unset, .unset, .unset, .unset, .unset, .unset, .unset, .unset] [])) _
  refine own_back (fun t k => XS.iloadN X0.here hx rfl (hb hby at_0) rfl k) ?_
  show OwnGo p e below (s₁.setTop (mkF m 1 #[.val (.long p1), .second, .val (.int p2), .val (.int p3), .val (.int p4), .unset, .unset, .unset, .unset, .unset, .unset, .unset, .unset, .unset] [(.int p2)])) _
  refine own_back (fun t k => XS.i2l X0.here hx rfl (hb hby at_1) rfl k) ?_
  show OwnGo p e below (s₁.setTop (mkF m 2 #[.val (.long p1), .second, .val (.int p2), .val (.int p3), .val (.int p4), .unset, .unset, .unset, .unset, .unset, .unset, .unset, .unset, .unset] [(.long p2.toInt64)])) _
  refine own_back (fun t k => X0.ldc2Long hx hown (mvT hZ (hw _ (List.mem_of_getElem? (i := 0) rfl))) (g := (mkF m 2 #[.val (.long p1), .second, .val (.int p2), .val (.int p3), .val (.int p4), .unset, .unset, .unset, .unset, .unset, .unset, .unset, .unset, .unset] [(.long p2.toInt64)])) rfl (hb hby at_2) t k) ?_
  show OwnGo p e below (s₁.setTop (mkF m 5 #[.val (.long p1), .second, .val (.int p2), .val (.int p3), .val (.int p4), .unset, .unset, .unset, .unset, .unset, .unset, .unset, .unset, .unset] [(.long (2147483647 : Int64)), (.long p2.toInt64)])) _
  refine own_back (fun t k => XS.land X0.here hx rfl (hb hby at_5) rfl k) ?_
  show OwnGo p e below (s₁.setTop (mkF m 6 #[.val (.long p1), .second, .val (.int p2), .val (.int p3), .val (.int p4), .unset, .unset, .unset, .unset, .unset, .unset, .unset, .unset, .unset] [(.long (p2.toInt64 &&& (2147483647 : Int64)))])) _
  refine own_back (fun t k => XS.lstore X0.here hx rfl (hb hby at_6) rfl (l' := #[.val (.long p1), .second, .val (.int p2), .val (.int p3), .val (.int p4), .val (.long (p2.toInt64 &&& (2147483647 : Int64))), .second, .unset, .unset, .unset, .unset, .unset, .unset, .unset]) rfl k) ?_
  show OwnGo p e below (s₁.setTop (mkF m 8 #[.val (.long p1), .second, .val (.int p2), .val (.int p3), .val (.int p4), .val (.long (p2.toInt64 &&& (2147483647 : Int64))), .second, .unset, .unset, .unset, .unset, .unset, .unset, .unset] [])) _
  refine own_back (fun t k => XS.iload X0.here hx rfl (hb hby at_8) rfl k) ?_
  show OwnGo p e below (s₁.setTop (mkF m 10 #[.val (.long p1), .second, .val (.int p2), .val (.int p3), .val (.int p4), .val (.long (p2.toInt64 &&& (2147483647 : Int64))), .second, .unset, .unset, .unset, .unset, .unset, .unset, .unset] [(.int p4)])) _
  refine own_back (fun t k => XS.iconst X0.here hx rfl (hb hby at_10) k) ?_
  show OwnGo p e below (s₁.setTop (mkF m 11 #[.val (.long p1), .second, .val (.int p2), .val (.int p3), .val (.int p4), .val (.long (p2.toInt64 &&& (2147483647 : Int64))), .second, .unset, .unset, .unset, .unset, .unset, .unset, .unset] [(.int (1 : Int32)), (.int p4)])) _
  refine own_back (fun t k => XS.iand X0.here hx rfl (hb hby at_11) rfl k) ?_
  show OwnGo p e below (s₁.setTop (mkF m 12 #[.val (.long p1), .second, .val (.int p2), .val (.int p3), .val (.int p4), .val (.long (p2.toInt64 &&& (2147483647 : Int64))), .second, .unset, .unset, .unset, .unset, .unset, .unset, .unset] [(.int (p4 &&& (1 : Int32)))])) _
  by_cases hc12_318 : (p4 &&& (1 : Int32)) = (0 : Int32)
  · refine own_back (fun t k => XS.ifYes X0.here hx rfl (pc0 := 12) (pc' := 26) rfl (hb hby at_12) rfl (Jvm.Free.XT.i0_eq_t hc12_318) (by decide) (by decide) k) ?_
    show OwnGo p e below (s₁.setTop (mkF m 26 #[.val (.long p1), .second, .val (.int p2), .val (.int p3), .val (.int p4), .val (.long (p2.toInt64 &&& (2147483647 : Int64))), .second, .unset, .unset, .unset, .unset, .unset, .unset, .unset] [])) _
    refine own_back (fun t k => XS.lloadN X0.here hx rfl (hb hby at_26) rfl k) ?_
    show OwnGo p e below (s₁.setTop (mkF m 27 #[.val (.long p1), .second, .val (.int p2), .val (.int p3), .val (.int p4), .val (.long (p2.toInt64 &&& (2147483647 : Int64))), .second, .unset, .unset, .unset, .unset, .unset, .unset, .unset] [(.long p1)])) _
    refine own_back (fun t k => X0.ldc2Long hx hown (mvT hZ (hw _ (List.mem_of_getElem? (i := 1) rfl))) (g := (mkF m 27 #[.val (.long p1), .second, .val (.int p2), .val (.int p3), .val (.int p4), .val (.long (p2.toInt64 &&& (2147483647 : Int64))), .second, .unset, .unset, .unset, .unset, .unset, .unset, .unset] [(.long p1)])) rfl (hb hby at_27) t k) ?_
    show OwnGo p e below (s₁.setTop (mkF m 30 #[.val (.long p1), .second, .val (.int p2), .val (.int p3), .val (.int p4), .val (.long (p2.toInt64 &&& (2147483647 : Int64))), .second, .unset, .unset, .unset, .unset, .unset, .unset, .unset] [(.long (9223372036854775807 : Int64)), (.long p1)])) _
    refine own_back (fun t k => XS.land X0.here hx rfl (hb hby at_30) rfl k) ?_
    show OwnGo p e below (s₁.setTop (mkF m 31 #[.val (.long p1), .second, .val (.int p2), .val (.int p3), .val (.int p4), .val (.long (p2.toInt64 &&& (2147483647 : Int64))), .second, .unset, .unset, .unset, .unset, .unset, .unset, .unset] [(.long (p1 &&& (9223372036854775807 : Int64)))])) _
    refine own_back (fun t k => XS.lstore X0.here hx rfl (hb hby at_31) rfl (l' := #[.val (.long p1), .second, .val (.int p2), .val (.int p3), .val (.int p4), .val (.long (p2.toInt64 &&& (2147483647 : Int64))), .second, .val (.long (p1 &&& (9223372036854775807 : Int64))), .second, .unset, .unset, .unset, .unset, .unset]) rfl k) ?_
    show OwnGo p e below (s₁.setTop (mkF m 33 #[.val (.long p1), .second, .val (.int p2), .val (.int p3), .val (.int p4), .val (.long (p2.toInt64 &&& (2147483647 : Int64))), .second, .val (.long (p1 &&& (9223372036854775807 : Int64))), .second, .unset, .unset, .unset, .unset, .unset] [])) _
    obtain ⟨lf, hlf⟩ : ∃ z : Int64, z = (p1 &&& (9223372036854775807 : Int64)) := ⟨_, rfl⟩
    rw [← hlf]
    show OwnGo p e below (s₁.setTop (mkF m 33 #[.val (.long p1), .second, .val (.int p2), .val (.int p3), .val (.int p4), .val (.long (p2.toInt64 &&& (2147483647 : Int64))), .second, .val (.long lf), .second, .unset, .unset, .unset, .unset, .unset] [])) _
    have h319 : ¬ lf < 0 := by rw [hlf]; exact own_lf2 p1
    refine own_back (fun t k => XS.lload X0.here hx rfl (hb hby at_33) rfl k) ?_
    show OwnGo p e below (s₁.setTop (mkF m 35 #[.val (.long p1), .second, .val (.int p2), .val (.int p3), .val (.int p4), .val (.long (p2.toInt64 &&& (2147483647 : Int64))), .second, .val (.long lf), .second, .unset, .unset, .unset, .unset, .unset] [(.long (p2.toInt64 &&& (2147483647 : Int64)))])) _
    refine own_back (fun t k => XS.lload X0.here hx rfl (hb hby at_35) rfl k) ?_
    show OwnGo p e below (s₁.setTop (mkF m 37 #[.val (.long p1), .second, .val (.int p2), .val (.int p3), .val (.int p4), .val (.long (p2.toInt64 &&& (2147483647 : Int64))), .second, .val (.long lf), .second, .unset, .unset, .unset, .unset, .unset] [(.long lf), (.long (p2.toInt64 &&& (2147483647 : Int64)))])) _
    obtain ⟨_, _, ⟨T320, L320, k320, n320⟩, -, X320, ⟨Lc320, hQ320, l320, y320, z320⟩, st320⟩ := Jvm.LawKit.callS X0 hx (y := (⟨"java/lang/Math", "min", "(JJ)J"⟩ : MethodName)) hown (mvT hZ (hw _ (List.mem_of_getElem? (i := 2) rfl))) (mvT hZ (hw _ (List.mem_of_getElem? (i := 3) rfl))) (mvT hZ (hw _ (List.mem_of_getElem? (i := 4) rfl))) (mvT hZ (hw _ (List.mem_of_getElem? (i := 5) rfl))) (by decide) (own_backN (W := 0) (rm_mi l Z a0 hw [] (p2.toInt64 &&& (2147483647 : Int64)) lf h0 n0 Z0) hZ (hw _ (List.mem_of_getElem? (i := 5) rfl)) (hw _ (List.mem_of_getElem? (i := 4) rfl)) (by decide) (by decide)) (g := (mkF m 37 #[.val (.long p1), .second, .val (.int p2), .val (.int p3), .val (.int p4), .val (.long (p2.toInt64 &&& (2147483647 : Int64))), .second, .val (.long lf), .second, .unset, .unset, .unset, .unset, .unset] [(.long lf), (.long (p2.toInt64 &&& (2147483647 : Int64)))])) rfl (by rw [hml]; rfl) (argsL := [(.long (p2.toInt64 &&& (2147483647 : Int64))), (.long lf)]) (rest := []) (lenOf lw_pd0 rfl) rfl (by show 2 * 0 + _ ≤ _; exact Nat.le_of_eq rfl) (hb hby at_37) (fun _ _ => ⟨rfl, e0, Nat.le_of_ble_eq_true rfl, Nat.le_of_ble_eq_true rfl⟩)
    dsimp only [Pt.U, Pt.locs, Pt.cells, Pt.slots] at X320 l320 y320 z320 st320 hQ320
    subst l320 y320 z320
    obtain ⟨rfl, N320q, hh320⟩ := hQ320
    refine own_back st320 ?_
    have N320 := Fr.app N0 N320q
    show OwnGo p e below (T320.setTop (mkF m 40 #[.val (.long p1), .second, .val (.int p2), .val (.int p3), .val (.int p4), .val (.long (p2.toInt64 &&& (2147483647 : Int64))), .second, .val (.long lf), .second, .unset, .unset, .unset, .unset, .unset] [(.long (own_min (p2.toInt64 &&& (2147483647 : Int64)) lf))])) _
    have hf1 := own_first (own_mnn p2).1 h319 (Or.inl (own_mnn p2).2)
    refine own_back (fun t k => XS.l2i X320.here hx rfl (hb hby at_40) rfl k) ?_
    show OwnGo p e below (T320.setTop (mkF m 41 #[.val (.long p1), .second, .val (.int p2), .val (.int p3), .val (.int p4), .val (.long (p2.toInt64 &&& (2147483647 : Int64))), .second, .val (.long lf), .second, .unset, .unset, .unset, .unset, .unset] [(.int (own_min (p2.toInt64 &&& (2147483647 : Int64)) lf).toInt32)])) _
    obtain ⟨f1, ef1⟩ : ∃ z : Int32, z = (own_min (p2.toInt64 &&& (2147483647 : Int64)) lf).toInt32 := ⟨_, rfl⟩
    rw [← ef1] at hf1
    rw [← ef1]
    show OwnGo p e below (T320.setTop (mkF m 41 #[.val (.long p1), .second, .val (.int p2), .val (.int p3), .val (.int p4), .val (.long (p2.toInt64 &&& (2147483647 : Int64))), .second, .val (.long lf), .second, .unset, .unset, .unset, .unset, .unset] [(.int f1)])) _
    refine own_back (fun t k => XS.istore X320.here hx rfl (hb hby at_41) rfl (l' := #[.val (.long p1), .second, .val (.int p2), .val (.int p3), .val (.int p4), .val (.long (p2.toInt64 &&& (2147483647 : Int64))), .second, .val (.long lf), .second, .val (.int f1), .unset, .unset, .unset, .unset]) rfl k) ?_
    show OwnGo p e below (T320.setTop (mkF m 43 #[.val (.long p1), .second, .val (.int p2), .val (.int p3), .val (.int p4), .val (.long (p2.toInt64 &&& (2147483647 : Int64))), .second, .val (.long lf), .second, .val (.int f1), .unset, .unset, .unset, .unset] [])) _
    obtain ⟨T321, h321, X321, e321, E321, A321, D321, -, st321⟩ := newO X320 hx hZ hown (hw _ (List.mem_of_getElem? (i := 6) rfl)) (hw _ (List.mem_of_getElem? (i := 7) rfl)) (hw _ (List.mem_of_getElem? (i := 8) rfl)) hh320 (g := (mkF m 43 #[.val (.long p1), .second, .val (.int p2), .val (.int p3), .val (.int p4), .val (.long (p2.toInt64 &&& (2147483647 : Int64))), .second, .val (.long lf), .second, .val (.int f1), .unset, .unset, .unset, .unset] [])) rfl (hb hby at_43) (Nat.le_of_ble_eq_true rfl) (Nat.le_of_ble_eq_true rfl)
    obtain ⟨b321, g321⟩ : ∃ z, z = h0.size := ⟨_, rfl⟩
    have ge322 : n0 ≤ b321 := Nat.le_trans Z0 (Nat.le_of_eq g321.symm)
    have sz323 : h0.size ≤ b321 := Nat.le_trans KP0.1 (Nat.le_of_eq g321.symm)
    rw [← g321] at A321 D321 st321
    have O324 := OL.ext E321
    have KP325 := KP0.ext E321
    have Zs326 := Nat.le_trans Z0 E321.1
    have F327 : Fld Z h321 b321 "com/example/quantpath/quantpath/count/Budget" "left" "J" (.long (0 : Int64)) := D321 (Or.inl (hw _ (List.mem_of_getElem? (i := 16) rfl))) (ty := .long) (by decide)
    refine own_back st321 ?_
    show OwnGo p e below (T321.setTop (mkF m 46 #[.val (.long p1), .second, .val (.int p2), .val (.int p3), .val (.int p4), .val (.long (p2.toInt64 &&& (2147483647 : Int64))), .second, .val (.long lf), .second, .val (.int f1), .unset, .unset, .unset, .unset] [(.ref b321)])) _
    refine own_back (fun t k => XS.dup X321.here hx rfl (hb hby at_46) rfl rfl k) ?_
    show OwnGo p e below (T321.setTop (mkF m 47 #[.val (.long p1), .second, .val (.int p2), .val (.int p3), .val (.int p4), .val (.long (p2.toInt64 &&& (2147483647 : Int64))), .second, .val (.long lf), .second, .val (.int f1), .unset, .unset, .unset, .unset] [(.ref b321), (.ref b321)])) _
    refine own_back (fun t k => XS.lload X321.here hx rfl (hb hby at_47) rfl k) ?_
    show OwnGo p e below (T321.setTop (mkF m 49 #[.val (.long p1), .second, .val (.int p2), .val (.int p3), .val (.int p4), .val (.long (p2.toInt64 &&& (2147483647 : Int64))), .second, .val (.long lf), .second, .val (.int f1), .unset, .unset, .unset, .unset] [(.long lf), (.ref b321), (.ref b321)])) _
    obtain ⟨_, _, ⟨T328, L328, k328, n328⟩, -, X328, ⟨Lc328, hQ328, l328, y328, z328⟩, st328⟩ := X321.specialBack hx (y := (⟨"com/example/quantpath/quantpath/count/Budget", "<init>", "(J)V"⟩ : MethodName)) rfl hown (mvT hZ (hw _ (List.mem_of_getElem? (i := 9) rfl))) (mvT hZ (hw _ (List.mem_of_getElem? (i := 10) rfl))) (mvT hZ (hw _ (List.mem_of_getElem? (i := 11) rfl))) (by decide) (own_backN (W := 1) (rm_bu l Z a0 hw [] b321 lf 0 h321 n0 Zs326 O324 A321 F327 ge322 h319) hZ (hw _ (List.mem_of_getElem? (i := 11) rfl)) (hw _ (List.mem_of_getElem? (i := 8) rfl)) (by decide) (by decide)) (g := (mkF m 49 #[.val (.long p1), .second, .val (.int p2), .val (.int p3), .val (.int p4), .val (.long (p2.toInt64 &&& (2147483647 : Int64))), .second, .val (.long lf), .second, .val (.int f1), .unset, .unset, .unset, .unset] [(.long lf), (.ref b321), (.ref b321)])) rfl (by rw [hml]; rfl) (Steps.refl _) (a := b321) (argsL := [(.long lf)]) (rest := [(.ref b321)]) (lenOf lw_pd1 rfl) rfl (by show 2 * 0 + _ ≤ _; exact Nat.le_of_eq rfl) (hb hby at_49) (fun _ _ => ⟨rfl, e321, Nat.le_of_ble_eq_true rfl, Nat.le_of_ble_eq_true rfl⟩)
    dsimp only [Pt.U, Pt.locs, Pt.cells, Pt.slots] at X328 l328 y328 z328 st328 hQ328
    subst l328 y328 z328
    obtain ⟨rfl, N328q, K328, F328⟩ := hQ328
    refine own_seq st328 ?_
    have N328 := Fr.app N320 N328q
    have O329 := O324.keep K328 (allS ge322 all0)
    have KP330 := KP325.trans K328 (allS (Or.inr sz323) all0)
    have Zs331 := Nat.le_trans Zs326 K328.1
    have f332 := A321.keep K328
    show OwnGo p e below (T328.setTop (mkF m 52 #[.val (.long p1), .second, .val (.int p2), .val (.int p3), .val (.int p4), .val (.long (p2.toInt64 &&& (2147483647 : Int64))), .second, .val (.long lf), .second, .val (.int f1), .unset, .unset, .unset, .unset] [(.ref b321)])) _
    refine own_back (fun t k => XS.astore X328.here hx rfl (hb hby at_52) rfl rfl (l' := #[.val (.long p1), .second, .val (.int p2), .val (.int p3), .val (.int p4), .val (.long (p2.toInt64 &&& (2147483647 : Int64))), .second, .val (.long lf), .second, .val (.int f1), .val (.ref b321), .unset, .unset, .unset]) rfl k) ?_
    show OwnGo p e below (T328.setTop (mkF m 54 #[.val (.long p1), .second, .val (.int p2), .val (.int p3), .val (.int p4), .val (.long (p2.toInt64 &&& (2147483647 : Int64))), .second, .val (.long lf), .second, .val (.int f1), .val (.ref b321), .unset, .unset, .unset] [])) _
    refine own_back (fun t k => XS.aload X328.here hx rfl (hb hby at_54) rfl rfl k) ?_
    show OwnGo p e below (T328.setTop (mkF m 56 #[.val (.long p1), .second, .val (.int p2), .val (.int p3), .val (.int p4), .val (.long (p2.toInt64 &&& (2147483647 : Int64))), .second, .val (.long lf), .second, .val (.int f1), .val (.ref b321), .unset, .unset, .unset] [(.ref b321)])) _
    refine own_back (fun t k => XS.iload X328.here hx rfl (hb hby at_56) rfl k) ?_
    show OwnGo p e below (T328.setTop (mkF m 58 #[.val (.long p1), .second, .val (.int p2), .val (.int p3), .val (.int p4), .val (.long (p2.toInt64 &&& (2147483647 : Int64))), .second, .val (.long lf), .second, .val (.int f1), .val (.ref b321), .unset, .unset, .unset] [(.int f1), (.ref b321)])) _
    obtain ⟨cq333, kq333, q333a, q333b, q333c⟩ := isOf hZ rfl f332
    obtain ⟨_, _, ⟨T333, L333, k333, n333⟩, -, X333, ⟨Lc333, hQ333, l333, y333, z333⟩, st333⟩ := X328.virtualBack hx (y := (⟨"com/example/quantpath/quantpath/count/Budget", "spend", "(I)V"⟩ : MethodName)) (z := (⟨"com/example/quantpath/quantpath/count/Budget", "spend", "(I)V"⟩ : MethodName)) hown (mvT hZ (hw _ (List.mem_of_getElem? (i := 17) rfl))) (mvT hZ (hw _ (List.mem_of_getElem? (i := 18) rfl))) (notFace_of_selects (args := #[]) (mvT hZ (hw _ (List.mem_of_getElem? (i := 20) rfl)))) (mvT hZ (hw _ (List.mem_of_getElem? (i := 20) rfl))) (mvT hZ (hw _ (List.mem_of_getElem? (i := 19) rfl))) (by decide) (own_backN (W := 0) (rm_sp l Z a0 hw [] b321 f1 lf T328.heap n0 Zs331 O329 f332 F328 ge322 hf1.2.1) hZ (hw _ (List.mem_of_getElem? (i := 21) rfl)) (hw _ (List.mem_of_getElem? (i := 8) rfl)) (by decide) (by decide)) q333a q333c (g := (mkF m 58 #[.val (.long p1), .second, .val (.int p2), .val (.int p3), .val (.int p4), .val (.long (p2.toInt64 &&& (2147483647 : Int64))), .second, .val (.long lf), .second, .val (.int f1), .val (.ref b321), .unset, .unset, .unset] [(.int f1), (.ref b321)])) rfl (by rw [hml]; rfl) (Steps.refl _) (argsL := [(.int f1)]) (rest := []) (lenOf lw_pd2 rfl) rfl (by show 2 * 0 + _ ≤ _; exact Nat.le_of_eq rfl) (hb hby at_58) (fun _ _ => ⟨rfl, rfl, Nat.le_of_ble_eq_true rfl, Nat.le_of_ble_eq_true rfl⟩)
    dsimp only [Pt.U, Pt.locs, Pt.cells, Pt.slots] at X333 l333 y333 z333 st333 hQ333
    subst l333 y333 z333
    obtain ⟨rfl, N333q, K333, F333⟩ := hQ333
    refine own_seq st333 ?_
    have N333 := Fr.app N328 N333q
    have O334 := O329.keep K333 (allS ge322 all0)
    have KP335 := KP330.trans K333 (allS (Or.inr sz323) all0)
    have Zs336 := Nat.le_trans Zs331 K333.1
    have f337 := f332.keep K333
    show OwnGo p e below (T333.setTop (mkF m 61 #[.val (.long p1), .second, .val (.int p2), .val (.int p3), .val (.int p4), .val (.long (p2.toInt64 &&& (2147483647 : Int64))), .second, .val (.long lf), .second, .val (.int f1), .val (.ref b321), .unset, .unset, .unset] [])) _
    refine own_back (fun t k => XS.lload X333.here hx rfl (hb hby at_61) rfl k) ?_
    show OwnGo p e below (T333.setTop (mkF m 63 #[.val (.long p1), .second, .val (.int p2), .val (.int p3), .val (.int p4), .val (.long (p2.toInt64 &&& (2147483647 : Int64))), .second, .val (.long lf), .second, .val (.int f1), .val (.ref b321), .unset, .unset, .unset] [(.long lf)])) _
    refine own_back (fun t k => XS.iload X333.here hx rfl (hb hby at_63) rfl k) ?_
    show OwnGo p e below (T333.setTop (mkF m 65 #[.val (.long p1), .second, .val (.int p2), .val (.int p3), .val (.int p4), .val (.long (p2.toInt64 &&& (2147483647 : Int64))), .second, .val (.long lf), .second, .val (.int f1), .val (.ref b321), .unset, .unset, .unset] [(.int f1), (.long lf)])) _
    refine own_back (fun t k => XS.i2l X333.here hx rfl (hb hby at_65) rfl k) ?_
    show OwnGo p e below (T333.setTop (mkF m 66 #[.val (.long p1), .second, .val (.int p2), .val (.int p3), .val (.int p4), .val (.long (p2.toInt64 &&& (2147483647 : Int64))), .second, .val (.long lf), .second, .val (.int f1), .val (.ref b321), .unset, .unset, .unset] [(.long f1.toInt64), (.long lf)])) _
    refine own_back (fun t k => XS.lsub X333.here hx rfl (hb hby at_66) rfl k) ?_
    show OwnGo p e below (T333.setTop (mkF m 67 #[.val (.long p1), .second, .val (.int p2), .val (.int p3), .val (.int p4), .val (.long (p2.toInt64 &&& (2147483647 : Int64))), .second, .val (.long lf), .second, .val (.int f1), .val (.ref b321), .unset, .unset, .unset] [(.long (lf - f1.toInt64))])) _
    refine own_back (fun t k => XS.lstore X333.here hx rfl (hb hby at_67) rfl (l' := #[.val (.long p1), .second, .val (.int p2), .val (.int p3), .val (.int p4), .val (.long (p2.toInt64 &&& (2147483647 : Int64))), .second, .val (.long lf), .second, .val (.int f1), .val (.ref b321), .val (.long (lf - f1.toInt64)), .second, .unset]) rfl k) ?_
    show OwnGo p e below (T333.setTop (mkF m 69 #[.val (.long p1), .second, .val (.int p2), .val (.int p3), .val (.int p4), .val (.long (p2.toInt64 &&& (2147483647 : Int64))), .second, .val (.long lf), .second, .val (.int f1), .val (.ref b321), .val (.long (lf - f1.toInt64)), .second, .unset] [])) _
    have hr1 := hf1.2.2
    obtain ⟨r1, er1⟩ : ∃ z : Int64, z = (lf - f1.toInt64) := ⟨_, rfl⟩
    rw [← er1] at hr1 F333
    rw [← er1]
    show OwnGo p e below (T333.setTop (mkF m 69 #[.val (.long p1), .second, .val (.int p2), .val (.int p3), .val (.int p4), .val (.long (p2.toInt64 &&& (2147483647 : Int64))), .second, .val (.long lf), .second, .val (.int f1), .val (.ref b321), .val (.long r1), .second, .unset] [])) _
    refine own_back (fun t k => XS.aload X333.here hx rfl (hb hby at_69) rfl rfl k) ?_
    show OwnGo p e below (T333.setTop (mkF m 71 #[.val (.long p1), .second, .val (.int p2), .val (.int p3), .val (.int p4), .val (.long (p2.toInt64 &&& (2147483647 : Int64))), .second, .val (.long lf), .second, .val (.int f1), .val (.ref b321), .val (.long r1), .second, .unset] [(.ref b321)])) _
    refine own_back (fun t k => XS.lload X333.here hx rfl (hb hby at_71) rfl k) ?_
    show OwnGo p e below (T333.setTop (mkF m 73 #[.val (.long p1), .second, .val (.int p2), .val (.int p3), .val (.int p4), .val (.long (p2.toInt64 &&& (2147483647 : Int64))), .second, .val (.long lf), .second, .val (.int f1), .val (.ref b321), .val (.long r1), .second, .unset] [(.long r1), (.ref b321)])) _
    obtain ⟨_, _, ⟨T338, L338, k338, n338⟩, -, X338, ⟨Lc338, hQ338, l338, y338, z338⟩, st338⟩ := Jvm.LawKit.callS X333 hx (y := (⟨"com/example/quantpath/quantpath/count/BudgetSpendPinLaw", "exactly", "(Lcom/example/quantpath/quantpath/count/Budget;J)Z"⟩ : MethodName)) hown (mvT hZ (hw _ (List.mem_of_getElem? (i := 22) rfl))) (mvT hZ (hw _ (List.mem_of_getElem? (i := 23) rfl))) (mvT hZ (hw _ (List.mem_of_getElem? (i := 24) rfl))) (mvT hZ (hw _ (List.mem_of_getElem? (i := 25) rfl))) (by decide) (own_backN (W := 0) (rm_ex l Z a0 hw [] b321 r1 wz wp cp T333.heap n0 Zs336 O334 SZ SP BZ AP nP HP f337 F333 hr1) hZ (hw _ (List.mem_of_getElem? (i := 25) rfl)) (hw _ (List.mem_of_getElem? (i := 24) rfl)) (by decide) (by decide)) (g := (mkF m 73 #[.val (.long p1), .second, .val (.int p2), .val (.int p3), .val (.int p4), .val (.long (p2.toInt64 &&& (2147483647 : Int64))), .second, .val (.long lf), .second, .val (.int f1), .val (.ref b321), .val (.long r1), .second, .unset] [(.long r1), (.ref b321)])) rfl (by rw [hml]; rfl) (argsL := [(.ref b321), (.long r1)]) (rest := []) (lenOf lw_pd3 rfl) rfl (by show 2 * 0 + _ ≤ _; exact Nat.le_of_eq rfl) (hb hby at_73) (fun _ _ => ⟨rfl, rfl, Nat.le_of_ble_eq_true rfl, Nat.le_of_ble_eq_true rfl⟩)
    dsimp only [Pt.U, Pt.locs, Pt.cells, Pt.slots] at X338 l338 y338 z338 st338 hQ338
    subst l338 y338 z338
    obtain ⟨rfl, N338q, E338⟩ := hQ338
    refine own_back st338 ?_
    have N338 := Fr.app N333 N338q
    have O339 := O334.ext E338
    have KP340 := KP335.ext E338
    have Zs341 := Nat.le_trans Zs336 E338.1
    have f342 := f337.ext E338
    have f343 := F333.ext E338
    show OwnGo p e below (T338.setTop (mkF m 76 #[.val (.long p1), .second, .val (.int p2), .val (.int p3), .val (.int p4), .val (.long (p2.toInt64 &&& (2147483647 : Int64))), .second, .val (.long lf), .second, .val (.int f1), .val (.ref b321), .val (.long r1), .second, .unset] [(.int (1 : Int32))])) _
    refine own_back (fun t k => XS.ifYes X338.here hx rfl (pc0 := 76) (pc' := 81) rfl (hb hby at_76) rfl (Jvm.Free.XT.i0_ne_t (by decide)) (by decide) (by decide) k) ?_
    show OwnGo p e below (T338.setTop (mkF m 81 #[.val (.long p1), .second, .val (.int p2), .val (.int p3), .val (.int p4), .val (.long (p2.toInt64 &&& (2147483647 : Int64))), .second, .val (.long lf), .second, .val (.int f1), .val (.ref b321), .val (.long r1), .second, .unset] [])) _
    refine own_back (fun t k => XS.iload X338.here hx rfl (hb hby at_81) rfl k) ?_
    show OwnGo p e below (T338.setTop (mkF m 83 #[.val (.long p1), .second, .val (.int p2), .val (.int p3), .val (.int p4), .val (.long (p2.toInt64 &&& (2147483647 : Int64))), .second, .val (.long lf), .second, .val (.int f1), .val (.ref b321), .val (.long r1), .second, .unset] [(.int p4)])) _
    refine own_back (fun t k => XS.iconst X338.here hx rfl (hb hby at_83) k) ?_
    show OwnGo p e below (T338.setTop (mkF m 84 #[.val (.long p1), .second, .val (.int p2), .val (.int p3), .val (.int p4), .val (.long (p2.toInt64 &&& (2147483647 : Int64))), .second, .val (.long lf), .second, .val (.int f1), .val (.ref b321), .val (.long r1), .second, .unset] [(.int (2 : Int32)), (.int p4)])) _
    refine own_back (fun t k => XS.iand X338.here hx rfl (hb hby at_84) rfl k) ?_
    show OwnGo p e below (T338.setTop (mkF m 85 #[.val (.long p1), .second, .val (.int p2), .val (.int p3), .val (.int p4), .val (.long (p2.toInt64 &&& (2147483647 : Int64))), .second, .val (.long lf), .second, .val (.int f1), .val (.ref b321), .val (.long r1), .second, .unset] [(.int (p4 &&& (2 : Int32)))])) _
    by_cases hc85_344 : (p4 &&& (2 : Int32)) = (0 : Int32)
    · refine own_back (fun t k => XS.ifYes X338.here hx rfl (pc0 := 85) (pc' := 102) rfl (hb hby at_85) rfl (Jvm.Free.XT.i0_eq_t hc85_344) (by decide) (by decide) k) ?_
      show OwnGo p e below (T338.setTop (mkF m 102 #[.val (.long p1), .second, .val (.int p2), .val (.int p3), .val (.int p4), .val (.long (p2.toInt64 &&& (2147483647 : Int64))), .second, .val (.long lf), .second, .val (.int f1), .val (.ref b321), .val (.long r1), .second, .unset] [])) _
      refine own_back (fun t k => XS.iloadN X338.here hx rfl (hb hby at_102) rfl k) ?_
      show OwnGo p e below (T338.setTop (mkF m 103 #[.val (.long p1), .second, .val (.int p2), .val (.int p3), .val (.int p4), .val (.long (p2.toInt64 &&& (2147483647 : Int64))), .second, .val (.long lf), .second, .val (.int f1), .val (.ref b321), .val (.long r1), .second, .unset] [(.int p3)])) _
      refine own_back (fun t k => XS.i2l X338.here hx rfl (hb hby at_103) rfl k) ?_
      show OwnGo p e below (T338.setTop (mkF m 104 #[.val (.long p1), .second, .val (.int p2), .val (.int p3), .val (.int p4), .val (.long (p2.toInt64 &&& (2147483647 : Int64))), .second, .val (.long lf), .second, .val (.int f1), .val (.ref b321), .val (.long r1), .second, .unset] [(.long p3.toInt64)])) _
      refine own_back (fun t k => X338.ldc2Long hx hown (mvT hZ (hw _ (List.mem_of_getElem? (i := 0) rfl))) (g := (mkF m 104 #[.val (.long p1), .second, .val (.int p2), .val (.int p3), .val (.int p4), .val (.long (p2.toInt64 &&& (2147483647 : Int64))), .second, .val (.long lf), .second, .val (.int f1), .val (.ref b321), .val (.long r1), .second, .unset] [(.long p3.toInt64)])) rfl (hb hby at_104) t k) ?_
      show OwnGo p e below (T338.setTop (mkF m 107 #[.val (.long p1), .second, .val (.int p2), .val (.int p3), .val (.int p4), .val (.long (p2.toInt64 &&& (2147483647 : Int64))), .second, .val (.long lf), .second, .val (.int f1), .val (.ref b321), .val (.long r1), .second, .unset] [(.long (2147483647 : Int64)), (.long p3.toInt64)])) _
      refine own_back (fun t k => XS.land X338.here hx rfl (hb hby at_107) rfl k) ?_
      show OwnGo p e below (T338.setTop (mkF m 108 #[.val (.long p1), .second, .val (.int p2), .val (.int p3), .val (.int p4), .val (.long (p2.toInt64 &&& (2147483647 : Int64))), .second, .val (.long lf), .second, .val (.int f1), .val (.ref b321), .val (.long r1), .second, .unset] [(.long (p3.toInt64 &&& (2147483647 : Int64)))])) _
      refine own_back (fun t k => XS.lload X338.here hx rfl (hb hby at_108) rfl k) ?_
      show OwnGo p e below (T338.setTop (mkF m 110 #[.val (.long p1), .second, .val (.int p2), .val (.int p3), .val (.int p4), .val (.long (p2.toInt64 &&& (2147483647 : Int64))), .second, .val (.long lf), .second, .val (.int f1), .val (.ref b321), .val (.long r1), .second, .unset] [(.long r1), (.long (p3.toInt64 &&& (2147483647 : Int64)))])) _
      obtain ⟨_, _, ⟨T345, L345, k345, n345⟩, -, X345, ⟨Lc345, hQ345, l345, y345, z345⟩, st345⟩ := Jvm.LawKit.callS X338 hx (y := (⟨"java/lang/Math", "min", "(JJ)J"⟩ : MethodName)) hown (mvT hZ (hw _ (List.mem_of_getElem? (i := 2) rfl))) (mvT hZ (hw _ (List.mem_of_getElem? (i := 3) rfl))) (mvT hZ (hw _ (List.mem_of_getElem? (i := 4) rfl))) (mvT hZ (hw _ (List.mem_of_getElem? (i := 5) rfl))) (by decide) (own_backN (W := 0) (rm_mi l Z a0 hw [] (p3.toInt64 &&& (2147483647 : Int64)) r1 T338.heap n0 Zs341) hZ (hw _ (List.mem_of_getElem? (i := 5) rfl)) (hw _ (List.mem_of_getElem? (i := 4) rfl)) (by decide) (by decide)) (g := (mkF m 110 #[.val (.long p1), .second, .val (.int p2), .val (.int p3), .val (.int p4), .val (.long (p2.toInt64 &&& (2147483647 : Int64))), .second, .val (.long lf), .second, .val (.int f1), .val (.ref b321), .val (.long r1), .second, .unset] [(.long r1), (.long (p3.toInt64 &&& (2147483647 : Int64)))])) rfl (by rw [hml]; rfl) (argsL := [(.long (p3.toInt64 &&& (2147483647 : Int64))), (.long r1)]) (rest := []) (lenOf lw_pd0 rfl) rfl (by show 2 * 0 + _ ≤ _; exact Nat.le_of_eq rfl) (hb hby at_110) (fun _ _ => ⟨rfl, rfl, Nat.le_of_ble_eq_true rfl, Nat.le_of_ble_eq_true rfl⟩)
      dsimp only [Pt.U, Pt.locs, Pt.cells, Pt.slots] at X345 l345 y345 z345 st345 hQ345
      subst l345 y345 z345
      obtain ⟨rfl, N345q, hh345⟩ := hQ345
      refine own_back st345 ?_
      have N345 := Fr.app N338 N345q
      show OwnGo p e below (T345.setTop (mkF m 113 #[.val (.long p1), .second, .val (.int p2), .val (.int p3), .val (.int p4), .val (.long (p2.toInt64 &&& (2147483647 : Int64))), .second, .val (.long lf), .second, .val (.int f1), .val (.ref b321), .val (.long r1), .second, .unset] [(.long (own_min (p3.toInt64 &&& (2147483647 : Int64)) r1))])) _
      refine own_back (fun t k => XS.l2i X345.here hx rfl (hb hby at_113) rfl k) ?_
      show OwnGo p e below (T345.setTop (mkF m 114 #[.val (.long p1), .second, .val (.int p2), .val (.int p3), .val (.int p4), .val (.long (p2.toInt64 &&& (2147483647 : Int64))), .second, .val (.long lf), .second, .val (.int f1), .val (.ref b321), .val (.long r1), .second, .unset] [(.int (own_min (p3.toInt64 &&& (2147483647 : Int64)) r1).toInt32)])) _
      have hf2' := own_first (own_mnn p3).1 hr1 (Or.inl (own_mnn p3).2)
      have hf2 := hf2'.2
      obtain ⟨f2, ef2⟩ : ∃ z : Int32, z = (own_min (p3.toInt64 &&& (2147483647 : Int64)) r1).toInt32 := ⟨_, rfl⟩
      rw [← ef2] at hf2
      rw [← ef2]
      show OwnGo p e below (T345.setTop (mkF m 114 #[.val (.long p1), .second, .val (.int p2), .val (.int p3), .val (.int p4), .val (.long (p2.toInt64 &&& (2147483647 : Int64))), .second, .val (.long lf), .second, .val (.int f1), .val (.ref b321), .val (.long r1), .second, .unset] [(.int f2)])) _
      refine own_back (fun t k => XS.istore X345.here hx rfl (hb hby at_114) rfl (l' := #[.val (.long p1), .second, .val (.int p2), .val (.int p3), .val (.int p4), .val (.long (p2.toInt64 &&& (2147483647 : Int64))), .second, .val (.long lf), .second, .val (.int f1), .val (.ref b321), .val (.long r1), .second, .val (.int f2)]) rfl k) ?_
      show OwnGo p e below (T345.setTop (mkF m 116 #[.val (.long p1), .second, .val (.int p2), .val (.int p3), .val (.int p4), .val (.long (p2.toInt64 &&& (2147483647 : Int64))), .second, .val (.long lf), .second, .val (.int f1), .val (.ref b321), .val (.long r1), .second, .val (.int f2)] [])) _
      refine own_back (fun t k => XS.aload X345.here hx rfl (hb hby at_116) rfl rfl k) ?_
      show OwnGo p e below (T345.setTop (mkF m 118 #[.val (.long p1), .second, .val (.int p2), .val (.int p3), .val (.int p4), .val (.long (p2.toInt64 &&& (2147483647 : Int64))), .second, .val (.long lf), .second, .val (.int f1), .val (.ref b321), .val (.long r1), .second, .val (.int f2)] [(.ref b321)])) _
      refine own_back (fun t k => XS.iload X345.here hx rfl (hb hby at_118) rfl k) ?_
      show OwnGo p e below (T345.setTop (mkF m 120 #[.val (.long p1), .second, .val (.int p2), .val (.int p3), .val (.int p4), .val (.long (p2.toInt64 &&& (2147483647 : Int64))), .second, .val (.long lf), .second, .val (.int f1), .val (.ref b321), .val (.long r1), .second, .val (.int f2)] [(.int f2), (.ref b321)])) _
      obtain ⟨cq346, kq346, q346a, q346b, q346c⟩ := isOf hZ hh345 f342
      obtain ⟨_, _, ⟨T346, L346, k346, n346⟩, -, X346, ⟨Lc346, hQ346, l346, y346, z346⟩, st346⟩ := X345.virtualBack hx (y := (⟨"com/example/quantpath/quantpath/count/Budget", "spend", "(I)V"⟩ : MethodName)) (z := (⟨"com/example/quantpath/quantpath/count/Budget", "spend", "(I)V"⟩ : MethodName)) hown (mvT hZ (hw _ (List.mem_of_getElem? (i := 17) rfl))) (mvT hZ (hw _ (List.mem_of_getElem? (i := 18) rfl))) (notFace_of_selects (args := #[]) (mvT hZ (hw _ (List.mem_of_getElem? (i := 20) rfl)))) (mvT hZ (hw _ (List.mem_of_getElem? (i := 20) rfl))) (mvT hZ (hw _ (List.mem_of_getElem? (i := 19) rfl))) (by decide) (own_backN (W := 0) (rm_sp l Z a0 hw [] b321 f2 r1 T338.heap n0 Zs341 O339 f342 f343 ge322 hf2.1) hZ (hw _ (List.mem_of_getElem? (i := 21) rfl)) (hw _ (List.mem_of_getElem? (i := 8) rfl)) (by decide) (by decide)) q346a q346c (g := (mkF m 120 #[.val (.long p1), .second, .val (.int p2), .val (.int p3), .val (.int p4), .val (.long (p2.toInt64 &&& (2147483647 : Int64))), .second, .val (.long lf), .second, .val (.int f1), .val (.ref b321), .val (.long r1), .second, .val (.int f2)] [(.int f2), (.ref b321)])) rfl (by rw [hml]; rfl) (Steps.refl _) (argsL := [(.int f2)]) (rest := []) (lenOf lw_pd2 rfl) rfl (by show 2 * 0 + _ ≤ _; exact Nat.le_of_eq rfl) (hb hby at_120) (fun _ _ => ⟨rfl, hh345, Nat.le_of_ble_eq_true rfl, Nat.le_of_ble_eq_true rfl⟩)
      dsimp only [Pt.U, Pt.locs, Pt.cells, Pt.slots] at X346 l346 y346 z346 st346 hQ346
      subst l346 y346 z346
      obtain ⟨rfl, N346q, K346, F346⟩ := hQ346
      refine own_seq st346 ?_
      have N346 := Fr.app N345 N346q
      have O347 := O339.keep K346 (allS ge322 all0)
      have KP348 := KP340.trans K346 (allS (Or.inr sz323) all0)
      have Zs349 := Nat.le_trans Zs341 K346.1
      have f350 := f342.keep K346
      show OwnGo p e below (T346.setTop (mkF m 123 #[.val (.long p1), .second, .val (.int p2), .val (.int p3), .val (.int p4), .val (.long (p2.toInt64 &&& (2147483647 : Int64))), .second, .val (.long lf), .second, .val (.int f1), .val (.ref b321), .val (.long r1), .second, .val (.int f2)] [])) _
      refine own_back (fun t k => XS.aload X346.here hx rfl (hb hby at_123) rfl rfl k) ?_
      show OwnGo p e below (T346.setTop (mkF m 125 #[.val (.long p1), .second, .val (.int p2), .val (.int p3), .val (.int p4), .val (.long (p2.toInt64 &&& (2147483647 : Int64))), .second, .val (.long lf), .second, .val (.int f1), .val (.ref b321), .val (.long r1), .second, .val (.int f2)] [(.ref b321)])) _
      refine own_back (fun t k => XS.lload X346.here hx rfl (hb hby at_125) rfl k) ?_
      show OwnGo p e below (T346.setTop (mkF m 127 #[.val (.long p1), .second, .val (.int p2), .val (.int p3), .val (.int p4), .val (.long (p2.toInt64 &&& (2147483647 : Int64))), .second, .val (.long lf), .second, .val (.int f1), .val (.ref b321), .val (.long r1), .second, .val (.int f2)] [(.long r1), (.ref b321)])) _
      refine own_back (fun t k => XS.iload X346.here hx rfl (hb hby at_127) rfl k) ?_
      show OwnGo p e below (T346.setTop (mkF m 129 #[.val (.long p1), .second, .val (.int p2), .val (.int p3), .val (.int p4), .val (.long (p2.toInt64 &&& (2147483647 : Int64))), .second, .val (.long lf), .second, .val (.int f1), .val (.ref b321), .val (.long r1), .second, .val (.int f2)] [(.int f2), (.long r1), (.ref b321)])) _
      refine own_back (fun t k => XS.i2l X346.here hx rfl (hb hby at_129) rfl k) ?_
      show OwnGo p e below (T346.setTop (mkF m 130 #[.val (.long p1), .second, .val (.int p2), .val (.int p3), .val (.int p4), .val (.long (p2.toInt64 &&& (2147483647 : Int64))), .second, .val (.long lf), .second, .val (.int f1), .val (.ref b321), .val (.long r1), .second, .val (.int f2)] [(.long f2.toInt64), (.long r1), (.ref b321)])) _
      refine own_back (fun t k => XS.lsub X346.here hx rfl (hb hby at_130) rfl k) ?_
      show OwnGo p e below (T346.setTop (mkF m 131 #[.val (.long p1), .second, .val (.int p2), .val (.int p3), .val (.int p4), .val (.long (p2.toInt64 &&& (2147483647 : Int64))), .second, .val (.long lf), .second, .val (.int f1), .val (.ref b321), .val (.long r1), .second, .val (.int f2)] [(.long (r1 - f2.toInt64)), (.ref b321)])) _
      obtain ⟨_, _, ⟨T351, L351, k351, n351⟩, -, X351, ⟨Lc351, hQ351, l351, y351, z351⟩, st351⟩ := Jvm.LawKit.callS X346 hx (y := (⟨"com/example/quantpath/quantpath/count/BudgetSpendPinLaw", "exactly", "(Lcom/example/quantpath/quantpath/count/Budget;J)Z"⟩ : MethodName)) hown (mvT hZ (hw _ (List.mem_of_getElem? (i := 22) rfl))) (mvT hZ (hw _ (List.mem_of_getElem? (i := 23) rfl))) (mvT hZ (hw _ (List.mem_of_getElem? (i := 24) rfl))) (mvT hZ (hw _ (List.mem_of_getElem? (i := 25) rfl))) (by decide) (own_backN (W := 0) (rm_ex l Z a0 hw [] b321 (r1 - f2.toInt64) wz wp cp T346.heap n0 Zs349 O347 SZ SP BZ AP nP HP f350 F346 hf2.2) hZ (hw _ (List.mem_of_getElem? (i := 25) rfl)) (hw _ (List.mem_of_getElem? (i := 24) rfl)) (by decide) (by decide)) (g := (mkF m 131 #[.val (.long p1), .second, .val (.int p2), .val (.int p3), .val (.int p4), .val (.long (p2.toInt64 &&& (2147483647 : Int64))), .second, .val (.long lf), .second, .val (.int f1), .val (.ref b321), .val (.long r1), .second, .val (.int f2)] [(.long (r1 - f2.toInt64)), (.ref b321)])) rfl (by rw [hml]; rfl) (argsL := [(.ref b321), (.long (r1 - f2.toInt64))]) (rest := []) (lenOf lw_pd3 rfl) rfl (by show 2 * 0 + _ ≤ _; exact Nat.le_of_eq rfl) (hb hby at_131) (fun _ _ => ⟨rfl, rfl, Nat.le_of_ble_eq_true rfl, Nat.le_of_ble_eq_true rfl⟩)
      dsimp only [Pt.U, Pt.locs, Pt.cells, Pt.slots] at X351 l351 y351 z351 st351 hQ351
      subst l351 y351 z351
      obtain ⟨rfl, N351q, E351⟩ := hQ351
      refine own_back st351 ?_
      have N351 := Fr.app N346 N351q
      have O352 := O347.ext E351
      have KP353 := KP348.ext E351
      have Zs354 := Nat.le_trans Zs349 E351.1
      have f355 := f350.ext E351
      have f356 := F346.ext E351
      show OwnGo p e below (T351.setTop (mkF m 134 #[.val (.long p1), .second, .val (.int p2), .val (.int p3), .val (.int p4), .val (.long (p2.toInt64 &&& (2147483647 : Int64))), .second, .val (.long lf), .second, .val (.int f1), .val (.ref b321), .val (.long r1), .second, .val (.int f2)] [(.int (1 : Int32))])) _
      refine own_retN X351 hx Bd.notSynchronized (t := .boolean) (z := (1 : Int32)) Bd.returns (by simp) rfl (hb hby at_134) rfl (Nat.le_of_ble_eq_true rfl) (Nat.le_of_ble_eq_true rfl) ?_
      exact ⟨rfl, N351⟩
    · refine own_back (fun t k => XS.ifNo X338.here hx rfl (hb hby at_85) rfl (Jvm.Free.XT.i0_eq_f hc85_344) k) ?_
      show OwnGo p e below (T338.setTop (mkF m 88 #[.val (.long p1), .second, .val (.int p2), .val (.int p3), .val (.int p4), .val (.long (p2.toInt64 &&& (2147483647 : Int64))), .second, .val (.long lf), .second, .val (.int f1), .val (.ref b321), .val (.long r1), .second, .unset] [])) _
      refine own_back (fun t k => XS.lload X338.here hx rfl (hb hby at_88) rfl k) ?_
      show OwnGo p e below (T338.setTop (mkF m 90 #[.val (.long p1), .second, .val (.int p2), .val (.int p3), .val (.int p4), .val (.long (p2.toInt64 &&& (2147483647 : Int64))), .second, .val (.long lf), .second, .val (.int f1), .val (.ref b321), .val (.long r1), .second, .unset] [(.long r1)])) _
      refine own_back (fun t k => X338.ldc2Long hx hown (mvT hZ (hw _ (List.mem_of_getElem? (i := 0) rfl))) (g := (mkF m 90 #[.val (.long p1), .second, .val (.int p2), .val (.int p3), .val (.int p4), .val (.long (p2.toInt64 &&& (2147483647 : Int64))), .second, .val (.long lf), .second, .val (.int f1), .val (.ref b321), .val (.long r1), .second, .unset] [(.long r1)])) rfl (hb hby at_90) t k) ?_
      show OwnGo p e below (T338.setTop (mkF m 93 #[.val (.long p1), .second, .val (.int p2), .val (.int p3), .val (.int p4), .val (.long (p2.toInt64 &&& (2147483647 : Int64))), .second, .val (.long lf), .second, .val (.int f1), .val (.ref b321), .val (.long r1), .second, .unset] [(.long (2147483647 : Int64)), (.long r1)])) _
      obtain ⟨_, _, ⟨T357, L357, k357, n357⟩, -, X357, ⟨Lc357, hQ357, l357, y357, z357⟩, st357⟩ := Jvm.LawKit.callS X338 hx (y := (⟨"java/lang/Math", "min", "(JJ)J"⟩ : MethodName)) hown (mvT hZ (hw _ (List.mem_of_getElem? (i := 2) rfl))) (mvT hZ (hw _ (List.mem_of_getElem? (i := 3) rfl))) (mvT hZ (hw _ (List.mem_of_getElem? (i := 4) rfl))) (mvT hZ (hw _ (List.mem_of_getElem? (i := 5) rfl))) (by decide) (own_backN (W := 0) (rm_mi l Z a0 hw [] r1 (2147483647 : Int64) T338.heap n0 Zs341) hZ (hw _ (List.mem_of_getElem? (i := 5) rfl)) (hw _ (List.mem_of_getElem? (i := 4) rfl)) (by decide) (by decide)) (g := (mkF m 93 #[.val (.long p1), .second, .val (.int p2), .val (.int p3), .val (.int p4), .val (.long (p2.toInt64 &&& (2147483647 : Int64))), .second, .val (.long lf), .second, .val (.int f1), .val (.ref b321), .val (.long r1), .second, .unset] [(.long (2147483647 : Int64)), (.long r1)])) rfl (by rw [hml]; rfl) (argsL := [(.long r1), (.long (2147483647 : Int64))]) (rest := []) (lenOf lw_pd0 rfl) rfl (by show 2 * 0 + _ ≤ _; exact Nat.le_of_eq rfl) (hb hby at_93) (fun _ _ => ⟨rfl, rfl, Nat.le_of_ble_eq_true rfl, Nat.le_of_ble_eq_true rfl⟩)
      dsimp only [Pt.U, Pt.locs, Pt.cells, Pt.slots] at X357 l357 y357 z357 st357 hQ357
      subst l357 y357 z357
      obtain ⟨rfl, N357q, hh357⟩ := hQ357
      refine own_back st357 ?_
      have N357 := Fr.app N338 N357q
      show OwnGo p e below (T357.setTop (mkF m 96 #[.val (.long p1), .second, .val (.int p2), .val (.int p3), .val (.int p4), .val (.long (p2.toInt64 &&& (2147483647 : Int64))), .second, .val (.long lf), .second, .val (.int f1), .val (.ref b321), .val (.long r1), .second, .unset] [(.long (own_min r1 (2147483647 : Int64)))])) _
      refine own_back (fun t k => XS.l2i X357.here hx rfl (hb hby at_96) rfl k) ?_
      show OwnGo p e below (T357.setTop (mkF m 97 #[.val (.long p1), .second, .val (.int p2), .val (.int p3), .val (.int p4), .val (.long (p2.toInt64 &&& (2147483647 : Int64))), .second, .val (.long lf), .second, .val (.int f1), .val (.ref b321), .val (.long r1), .second, .unset] [(.int (own_min r1 (2147483647 : Int64)).toInt32)])) _
      have hf2' := own_first (x := r1) (y := (2147483647 : Int64)) hr1 (by decide) (Or.inr (by decide))
      have hf2 := hf2'.1
      obtain ⟨f2, ef2⟩ : ∃ z : Int32, z = (own_min r1 (2147483647 : Int64)).toInt32 := ⟨_, rfl⟩
      rw [← ef2] at hf2
      rw [← ef2]
      show OwnGo p e below (T357.setTop (mkF m 97 #[.val (.long p1), .second, .val (.int p2), .val (.int p3), .val (.int p4), .val (.long (p2.toInt64 &&& (2147483647 : Int64))), .second, .val (.long lf), .second, .val (.int f1), .val (.ref b321), .val (.long r1), .second, .unset] [(.int f2)])) _
      refine own_back (fun t k => XS.istore X357.here hx rfl (hb hby at_97) rfl (l' := #[.val (.long p1), .second, .val (.int p2), .val (.int p3), .val (.int p4), .val (.long (p2.toInt64 &&& (2147483647 : Int64))), .second, .val (.long lf), .second, .val (.int f1), .val (.ref b321), .val (.long r1), .second, .val (.int f2)]) rfl k) ?_
      show OwnGo p e below (T357.setTop (mkF m 99 #[.val (.long p1), .second, .val (.int p2), .val (.int p3), .val (.int p4), .val (.long (p2.toInt64 &&& (2147483647 : Int64))), .second, .val (.long lf), .second, .val (.int f1), .val (.ref b321), .val (.long r1), .second, .val (.int f2)] [])) _
      refine own_back (fun t k => XS.goto X357.here hx rfl (pc0 := 99) (pc' := 116) rfl (hb hby at_99) (by decide) (by decide) k) ?_
      show OwnGo p e below (T357.setTop (mkF m 116 #[.val (.long p1), .second, .val (.int p2), .val (.int p3), .val (.int p4), .val (.long (p2.toInt64 &&& (2147483647 : Int64))), .second, .val (.long lf), .second, .val (.int f1), .val (.ref b321), .val (.long r1), .second, .val (.int f2)] [])) _
      refine own_back (fun t k => XS.aload X357.here hx rfl (hb hby at_116) rfl rfl k) ?_
      show OwnGo p e below (T357.setTop (mkF m 118 #[.val (.long p1), .second, .val (.int p2), .val (.int p3), .val (.int p4), .val (.long (p2.toInt64 &&& (2147483647 : Int64))), .second, .val (.long lf), .second, .val (.int f1), .val (.ref b321), .val (.long r1), .second, .val (.int f2)] [(.ref b321)])) _
      refine own_back (fun t k => XS.iload X357.here hx rfl (hb hby at_118) rfl k) ?_
      show OwnGo p e below (T357.setTop (mkF m 120 #[.val (.long p1), .second, .val (.int p2), .val (.int p3), .val (.int p4), .val (.long (p2.toInt64 &&& (2147483647 : Int64))), .second, .val (.long lf), .second, .val (.int f1), .val (.ref b321), .val (.long r1), .second, .val (.int f2)] [(.int f2), (.ref b321)])) _
      obtain ⟨cq358, kq358, q358a, q358b, q358c⟩ := isOf hZ hh357 f342
      obtain ⟨_, _, ⟨T358, L358, k358, n358⟩, -, X358, ⟨Lc358, hQ358, l358, y358, z358⟩, st358⟩ := X357.virtualBack hx (y := (⟨"com/example/quantpath/quantpath/count/Budget", "spend", "(I)V"⟩ : MethodName)) (z := (⟨"com/example/quantpath/quantpath/count/Budget", "spend", "(I)V"⟩ : MethodName)) hown (mvT hZ (hw _ (List.mem_of_getElem? (i := 17) rfl))) (mvT hZ (hw _ (List.mem_of_getElem? (i := 18) rfl))) (notFace_of_selects (args := #[]) (mvT hZ (hw _ (List.mem_of_getElem? (i := 20) rfl)))) (mvT hZ (hw _ (List.mem_of_getElem? (i := 20) rfl))) (mvT hZ (hw _ (List.mem_of_getElem? (i := 19) rfl))) (by decide) (own_backN (W := 0) (rm_sp l Z a0 hw [] b321 f2 r1 T338.heap n0 Zs341 O339 f342 f343 ge322 hf2.1) hZ (hw _ (List.mem_of_getElem? (i := 21) rfl)) (hw _ (List.mem_of_getElem? (i := 8) rfl)) (by decide) (by decide)) q358a q358c (g := (mkF m 120 #[.val (.long p1), .second, .val (.int p2), .val (.int p3), .val (.int p4), .val (.long (p2.toInt64 &&& (2147483647 : Int64))), .second, .val (.long lf), .second, .val (.int f1), .val (.ref b321), .val (.long r1), .second, .val (.int f2)] [(.int f2), (.ref b321)])) rfl (by rw [hml]; rfl) (Steps.refl _) (argsL := [(.int f2)]) (rest := []) (lenOf lw_pd2 rfl) rfl (by show 2 * 0 + _ ≤ _; exact Nat.le_of_eq rfl) (hb hby at_120) (fun _ _ => ⟨rfl, hh357, Nat.le_of_ble_eq_true rfl, Nat.le_of_ble_eq_true rfl⟩)
      dsimp only [Pt.U, Pt.locs, Pt.cells, Pt.slots] at X358 l358 y358 z358 st358 hQ358
      subst l358 y358 z358
      obtain ⟨rfl, N358q, K358, F358⟩ := hQ358
      refine own_seq st358 ?_
      have N358 := Fr.app N357 N358q
      have O359 := O339.keep K358 (allS ge322 all0)
      have KP360 := KP340.trans K358 (allS (Or.inr sz323) all0)
      have Zs361 := Nat.le_trans Zs341 K358.1
      have f362 := f342.keep K358
      show OwnGo p e below (T358.setTop (mkF m 123 #[.val (.long p1), .second, .val (.int p2), .val (.int p3), .val (.int p4), .val (.long (p2.toInt64 &&& (2147483647 : Int64))), .second, .val (.long lf), .second, .val (.int f1), .val (.ref b321), .val (.long r1), .second, .val (.int f2)] [])) _
      refine own_back (fun t k => XS.aload X358.here hx rfl (hb hby at_123) rfl rfl k) ?_
      show OwnGo p e below (T358.setTop (mkF m 125 #[.val (.long p1), .second, .val (.int p2), .val (.int p3), .val (.int p4), .val (.long (p2.toInt64 &&& (2147483647 : Int64))), .second, .val (.long lf), .second, .val (.int f1), .val (.ref b321), .val (.long r1), .second, .val (.int f2)] [(.ref b321)])) _
      refine own_back (fun t k => XS.lload X358.here hx rfl (hb hby at_125) rfl k) ?_
      show OwnGo p e below (T358.setTop (mkF m 127 #[.val (.long p1), .second, .val (.int p2), .val (.int p3), .val (.int p4), .val (.long (p2.toInt64 &&& (2147483647 : Int64))), .second, .val (.long lf), .second, .val (.int f1), .val (.ref b321), .val (.long r1), .second, .val (.int f2)] [(.long r1), (.ref b321)])) _
      refine own_back (fun t k => XS.iload X358.here hx rfl (hb hby at_127) rfl k) ?_
      show OwnGo p e below (T358.setTop (mkF m 129 #[.val (.long p1), .second, .val (.int p2), .val (.int p3), .val (.int p4), .val (.long (p2.toInt64 &&& (2147483647 : Int64))), .second, .val (.long lf), .second, .val (.int f1), .val (.ref b321), .val (.long r1), .second, .val (.int f2)] [(.int f2), (.long r1), (.ref b321)])) _
      refine own_back (fun t k => XS.i2l X358.here hx rfl (hb hby at_129) rfl k) ?_
      show OwnGo p e below (T358.setTop (mkF m 130 #[.val (.long p1), .second, .val (.int p2), .val (.int p3), .val (.int p4), .val (.long (p2.toInt64 &&& (2147483647 : Int64))), .second, .val (.long lf), .second, .val (.int f1), .val (.ref b321), .val (.long r1), .second, .val (.int f2)] [(.long f2.toInt64), (.long r1), (.ref b321)])) _
      refine own_back (fun t k => XS.lsub X358.here hx rfl (hb hby at_130) rfl k) ?_
      show OwnGo p e below (T358.setTop (mkF m 131 #[.val (.long p1), .second, .val (.int p2), .val (.int p3), .val (.int p4), .val (.long (p2.toInt64 &&& (2147483647 : Int64))), .second, .val (.long lf), .second, .val (.int f1), .val (.ref b321), .val (.long r1), .second, .val (.int f2)] [(.long (r1 - f2.toInt64)), (.ref b321)])) _
      obtain ⟨_, _, ⟨T363, L363, k363, n363⟩, -, X363, ⟨Lc363, hQ363, l363, y363, z363⟩, st363⟩ := Jvm.LawKit.callS X358 hx (y := (⟨"com/example/quantpath/quantpath/count/BudgetSpendPinLaw", "exactly", "(Lcom/example/quantpath/quantpath/count/Budget;J)Z"⟩ : MethodName)) hown (mvT hZ (hw _ (List.mem_of_getElem? (i := 22) rfl))) (mvT hZ (hw _ (List.mem_of_getElem? (i := 23) rfl))) (mvT hZ (hw _ (List.mem_of_getElem? (i := 24) rfl))) (mvT hZ (hw _ (List.mem_of_getElem? (i := 25) rfl))) (by decide) (own_backN (W := 0) (rm_ex l Z a0 hw [] b321 (r1 - f2.toInt64) wz wp cp T358.heap n0 Zs361 O359 SZ SP BZ AP nP HP f362 F358 hf2.2) hZ (hw _ (List.mem_of_getElem? (i := 25) rfl)) (hw _ (List.mem_of_getElem? (i := 24) rfl)) (by decide) (by decide)) (g := (mkF m 131 #[.val (.long p1), .second, .val (.int p2), .val (.int p3), .val (.int p4), .val (.long (p2.toInt64 &&& (2147483647 : Int64))), .second, .val (.long lf), .second, .val (.int f1), .val (.ref b321), .val (.long r1), .second, .val (.int f2)] [(.long (r1 - f2.toInt64)), (.ref b321)])) rfl (by rw [hml]; rfl) (argsL := [(.ref b321), (.long (r1 - f2.toInt64))]) (rest := []) (lenOf lw_pd3 rfl) rfl (by show 2 * 0 + _ ≤ _; exact Nat.le_of_eq rfl) (hb hby at_131) (fun _ _ => ⟨rfl, rfl, Nat.le_of_ble_eq_true rfl, Nat.le_of_ble_eq_true rfl⟩)
      dsimp only [Pt.U, Pt.locs, Pt.cells, Pt.slots] at X363 l363 y363 z363 st363 hQ363
      subst l363 y363 z363
      obtain ⟨rfl, N363q, E363⟩ := hQ363
      refine own_back st363 ?_
      have N363 := Fr.app N358 N363q
      have O364 := O359.ext E363
      have KP365 := KP360.ext E363
      have Zs366 := Nat.le_trans Zs361 E363.1
      have f367 := f362.ext E363
      have f368 := F358.ext E363
      show OwnGo p e below (T363.setTop (mkF m 134 #[.val (.long p1), .second, .val (.int p2), .val (.int p3), .val (.int p4), .val (.long (p2.toInt64 &&& (2147483647 : Int64))), .second, .val (.long lf), .second, .val (.int f1), .val (.ref b321), .val (.long r1), .second, .val (.int f2)] [(.int (1 : Int32))])) _
      refine own_retN X363 hx Bd.notSynchronized (t := .boolean) (z := (1 : Int32)) Bd.returns (by simp) rfl (hb hby at_134) rfl (Nat.le_of_ble_eq_true rfl) (Nat.le_of_ble_eq_true rfl) ?_
      exact ⟨rfl, N363⟩
  · refine own_back (fun t k => XS.ifNo X0.here hx rfl (hb hby at_12) rfl (Jvm.Free.XT.i0_eq_f hc12_318) k) ?_
    show OwnGo p e below (s₁.setTop (mkF m 15 #[.val (.long p1), .second, .val (.int p2), .val (.int p3), .val (.int p4), .val (.long (p2.toInt64 &&& (2147483647 : Int64))), .second, .unset, .unset, .unset, .unset, .unset, .unset, .unset] [])) _
    refine own_back (fun t k => XS.lload X0.here hx rfl (hb hby at_15) rfl k) ?_
    show OwnGo p e below (s₁.setTop (mkF m 17 #[.val (.long p1), .second, .val (.int p2), .val (.int p3), .val (.int p4), .val (.long (p2.toInt64 &&& (2147483647 : Int64))), .second, .unset, .unset, .unset, .unset, .unset, .unset, .unset] [(.long (p2.toInt64 &&& (2147483647 : Int64)))])) _
    refine own_back (fun t k => XS.lloadN X0.here hx rfl (hb hby at_17) rfl k) ?_
    show OwnGo p e below (s₁.setTop (mkF m 18 #[.val (.long p1), .second, .val (.int p2), .val (.int p3), .val (.int p4), .val (.long (p2.toInt64 &&& (2147483647 : Int64))), .second, .unset, .unset, .unset, .unset, .unset, .unset, .unset] [(.long p1), (.long (p2.toInt64 &&& (2147483647 : Int64)))])) _
    refine own_back (fun t k => X0.ldc2Long hx hown (mvT hZ (hw _ (List.mem_of_getElem? (i := 54) rfl))) (g := (mkF m 18 #[.val (.long p1), .second, .val (.int p2), .val (.int p3), .val (.int p4), .val (.long (p2.toInt64 &&& (2147483647 : Int64))), .second, .unset, .unset, .unset, .unset, .unset, .unset, .unset] [(.long p1), (.long (p2.toInt64 &&& (2147483647 : Int64)))])) rfl (hb hby at_18) t k) ?_
    show OwnGo p e below (s₁.setTop (mkF m 21 #[.val (.long p1), .second, .val (.int p2), .val (.int p3), .val (.int p4), .val (.long (p2.toInt64 &&& (2147483647 : Int64))), .second, .unset, .unset, .unset, .unset, .unset, .unset, .unset] [(.long (3 : Int64)), (.long p1), (.long (p2.toInt64 &&& (2147483647 : Int64)))])) _
    refine own_back (fun t k => XS.land X0.here hx rfl (hb hby at_21) rfl k) ?_
    show OwnGo p e below (s₁.setTop (mkF m 22 #[.val (.long p1), .second, .val (.int p2), .val (.int p3), .val (.int p4), .val (.long (p2.toInt64 &&& (2147483647 : Int64))), .second, .unset, .unset, .unset, .unset, .unset, .unset, .unset] [(.long (p1 &&& (3 : Int64))), (.long (p2.toInt64 &&& (2147483647 : Int64)))])) _
    refine own_back (fun t k => XS.ladd X0.here hx rfl (hb hby at_22) rfl k) ?_
    show OwnGo p e below (s₁.setTop (mkF m 23 #[.val (.long p1), .second, .val (.int p2), .val (.int p3), .val (.int p4), .val (.long (p2.toInt64 &&& (2147483647 : Int64))), .second, .unset, .unset, .unset, .unset, .unset, .unset, .unset] [(.long ((p2.toInt64 &&& (2147483647 : Int64)) + (p1 &&& (3 : Int64))))])) _
    refine own_back (fun t k => XS.goto X0.here hx rfl (pc0 := 23) (pc' := 31) rfl (hb hby at_23) (by decide) (by decide) k) ?_
    show OwnGo p e below (s₁.setTop (mkF m 31 #[.val (.long p1), .second, .val (.int p2), .val (.int p3), .val (.int p4), .val (.long (p2.toInt64 &&& (2147483647 : Int64))), .second, .unset, .unset, .unset, .unset, .unset, .unset, .unset] [(.long ((p2.toInt64 &&& (2147483647 : Int64)) + (p1 &&& (3 : Int64))))])) _
    refine own_back (fun t k => XS.lstore X0.here hx rfl (hb hby at_31) rfl (l' := #[.val (.long p1), .second, .val (.int p2), .val (.int p3), .val (.int p4), .val (.long (p2.toInt64 &&& (2147483647 : Int64))), .second, .val (.long ((p2.toInt64 &&& (2147483647 : Int64)) + (p1 &&& (3 : Int64)))), .second, .unset, .unset, .unset, .unset, .unset]) rfl k) ?_
    show OwnGo p e below (s₁.setTop (mkF m 33 #[.val (.long p1), .second, .val (.int p2), .val (.int p3), .val (.int p4), .val (.long (p2.toInt64 &&& (2147483647 : Int64))), .second, .val (.long ((p2.toInt64 &&& (2147483647 : Int64)) + (p1 &&& (3 : Int64)))), .second, .unset, .unset, .unset, .unset, .unset] [])) _
    obtain ⟨lf, hlf⟩ : ∃ z : Int64, z = ((p2.toInt64 &&& (2147483647 : Int64)) + (p1 &&& (3 : Int64))) := ⟨_, rfl⟩
    rw [← hlf]
    show OwnGo p e below (s₁.setTop (mkF m 33 #[.val (.long p1), .second, .val (.int p2), .val (.int p3), .val (.int p4), .val (.long (p2.toInt64 &&& (2147483647 : Int64))), .second, .val (.long lf), .second, .unset, .unset, .unset, .unset, .unset] [])) _
    have h369 : ¬ lf < 0 := by rw [hlf]; exact own_lf1 p1 p2
    refine own_back (fun t k => XS.lload X0.here hx rfl (hb hby at_33) rfl k) ?_
    show OwnGo p e below (s₁.setTop (mkF m 35 #[.val (.long p1), .second, .val (.int p2), .val (.int p3), .val (.int p4), .val (.long (p2.toInt64 &&& (2147483647 : Int64))), .second, .val (.long lf), .second, .unset, .unset, .unset, .unset, .unset] [(.long (p2.toInt64 &&& (2147483647 : Int64)))])) _
    refine own_back (fun t k => XS.lload X0.here hx rfl (hb hby at_35) rfl k) ?_
    show OwnGo p e below (s₁.setTop (mkF m 37 #[.val (.long p1), .second, .val (.int p2), .val (.int p3), .val (.int p4), .val (.long (p2.toInt64 &&& (2147483647 : Int64))), .second, .val (.long lf), .second, .unset, .unset, .unset, .unset, .unset] [(.long lf), (.long (p2.toInt64 &&& (2147483647 : Int64)))])) _
    obtain ⟨_, _, ⟨T370, L370, k370, n370⟩, -, X370, ⟨Lc370, hQ370, l370, y370, z370⟩, st370⟩ := Jvm.LawKit.callS X0 hx (y := (⟨"java/lang/Math", "min", "(JJ)J"⟩ : MethodName)) hown (mvT hZ (hw _ (List.mem_of_getElem? (i := 2) rfl))) (mvT hZ (hw _ (List.mem_of_getElem? (i := 3) rfl))) (mvT hZ (hw _ (List.mem_of_getElem? (i := 4) rfl))) (mvT hZ (hw _ (List.mem_of_getElem? (i := 5) rfl))) (by decide) (own_backN (W := 0) (rm_mi l Z a0 hw [] (p2.toInt64 &&& (2147483647 : Int64)) lf h0 n0 Z0) hZ (hw _ (List.mem_of_getElem? (i := 5) rfl)) (hw _ (List.mem_of_getElem? (i := 4) rfl)) (by decide) (by decide)) (g := (mkF m 37 #[.val (.long p1), .second, .val (.int p2), .val (.int p3), .val (.int p4), .val (.long (p2.toInt64 &&& (2147483647 : Int64))), .second, .val (.long lf), .second, .unset, .unset, .unset, .unset, .unset] [(.long lf), (.long (p2.toInt64 &&& (2147483647 : Int64)))])) rfl (by rw [hml]; rfl) (argsL := [(.long (p2.toInt64 &&& (2147483647 : Int64))), (.long lf)]) (rest := []) (lenOf lw_pd0 rfl) rfl (by show 2 * 0 + _ ≤ _; exact Nat.le_of_eq rfl) (hb hby at_37) (fun _ _ => ⟨rfl, e0, Nat.le_of_ble_eq_true rfl, Nat.le_of_ble_eq_true rfl⟩)
    dsimp only [Pt.U, Pt.locs, Pt.cells, Pt.slots] at X370 l370 y370 z370 st370 hQ370
    subst l370 y370 z370
    obtain ⟨rfl, N370q, hh370⟩ := hQ370
    refine own_back st370 ?_
    have N370 := Fr.app N0 N370q
    show OwnGo p e below (T370.setTop (mkF m 40 #[.val (.long p1), .second, .val (.int p2), .val (.int p3), .val (.int p4), .val (.long (p2.toInt64 &&& (2147483647 : Int64))), .second, .val (.long lf), .second, .unset, .unset, .unset, .unset, .unset] [(.long (own_min (p2.toInt64 &&& (2147483647 : Int64)) lf))])) _
    have hf1 := own_first (own_mnn p2).1 h369 (Or.inl (own_mnn p2).2)
    refine own_back (fun t k => XS.l2i X370.here hx rfl (hb hby at_40) rfl k) ?_
    show OwnGo p e below (T370.setTop (mkF m 41 #[.val (.long p1), .second, .val (.int p2), .val (.int p3), .val (.int p4), .val (.long (p2.toInt64 &&& (2147483647 : Int64))), .second, .val (.long lf), .second, .unset, .unset, .unset, .unset, .unset] [(.int (own_min (p2.toInt64 &&& (2147483647 : Int64)) lf).toInt32)])) _
    obtain ⟨f1, ef1⟩ : ∃ z : Int32, z = (own_min (p2.toInt64 &&& (2147483647 : Int64)) lf).toInt32 := ⟨_, rfl⟩
    rw [← ef1] at hf1
    rw [← ef1]
    show OwnGo p e below (T370.setTop (mkF m 41 #[.val (.long p1), .second, .val (.int p2), .val (.int p3), .val (.int p4), .val (.long (p2.toInt64 &&& (2147483647 : Int64))), .second, .val (.long lf), .second, .unset, .unset, .unset, .unset, .unset] [(.int f1)])) _
    refine own_back (fun t k => XS.istore X370.here hx rfl (hb hby at_41) rfl (l' := #[.val (.long p1), .second, .val (.int p2), .val (.int p3), .val (.int p4), .val (.long (p2.toInt64 &&& (2147483647 : Int64))), .second, .val (.long lf), .second, .val (.int f1), .unset, .unset, .unset, .unset]) rfl k) ?_
    show OwnGo p e below (T370.setTop (mkF m 43 #[.val (.long p1), .second, .val (.int p2), .val (.int p3), .val (.int p4), .val (.long (p2.toInt64 &&& (2147483647 : Int64))), .second, .val (.long lf), .second, .val (.int f1), .unset, .unset, .unset, .unset] [])) _
    obtain ⟨T371, h371, X371, e371, E371, A371, D371, -, st371⟩ := newO X370 hx hZ hown (hw _ (List.mem_of_getElem? (i := 6) rfl)) (hw _ (List.mem_of_getElem? (i := 7) rfl)) (hw _ (List.mem_of_getElem? (i := 8) rfl)) hh370 (g := (mkF m 43 #[.val (.long p1), .second, .val (.int p2), .val (.int p3), .val (.int p4), .val (.long (p2.toInt64 &&& (2147483647 : Int64))), .second, .val (.long lf), .second, .val (.int f1), .unset, .unset, .unset, .unset] [])) rfl (hb hby at_43) (Nat.le_of_ble_eq_true rfl) (Nat.le_of_ble_eq_true rfl)
    obtain ⟨b371, g371⟩ : ∃ z, z = h0.size := ⟨_, rfl⟩
    have ge372 : n0 ≤ b371 := Nat.le_trans Z0 (Nat.le_of_eq g371.symm)
    have sz373 : h0.size ≤ b371 := Nat.le_trans KP0.1 (Nat.le_of_eq g371.symm)
    rw [← g371] at A371 D371 st371
    have O374 := OL.ext E371
    have KP375 := KP0.ext E371
    have Zs376 := Nat.le_trans Z0 E371.1
    have F377 : Fld Z h371 b371 "com/example/quantpath/quantpath/count/Budget" "left" "J" (.long (0 : Int64)) := D371 (Or.inl (hw _ (List.mem_of_getElem? (i := 16) rfl))) (ty := .long) (by decide)
    refine own_back st371 ?_
    show OwnGo p e below (T371.setTop (mkF m 46 #[.val (.long p1), .second, .val (.int p2), .val (.int p3), .val (.int p4), .val (.long (p2.toInt64 &&& (2147483647 : Int64))), .second, .val (.long lf), .second, .val (.int f1), .unset, .unset, .unset, .unset] [(.ref b371)])) _
    refine own_back (fun t k => XS.dup X371.here hx rfl (hb hby at_46) rfl rfl k) ?_
    show OwnGo p e below (T371.setTop (mkF m 47 #[.val (.long p1), .second, .val (.int p2), .val (.int p3), .val (.int p4), .val (.long (p2.toInt64 &&& (2147483647 : Int64))), .second, .val (.long lf), .second, .val (.int f1), .unset, .unset, .unset, .unset] [(.ref b371), (.ref b371)])) _
    refine own_back (fun t k => XS.lload X371.here hx rfl (hb hby at_47) rfl k) ?_
    show OwnGo p e below (T371.setTop (mkF m 49 #[.val (.long p1), .second, .val (.int p2), .val (.int p3), .val (.int p4), .val (.long (p2.toInt64 &&& (2147483647 : Int64))), .second, .val (.long lf), .second, .val (.int f1), .unset, .unset, .unset, .unset] [(.long lf), (.ref b371), (.ref b371)])) _
    obtain ⟨_, _, ⟨T378, L378, k378, n378⟩, -, X378, ⟨Lc378, hQ378, l378, y378, z378⟩, st378⟩ := X371.specialBack hx (y := (⟨"com/example/quantpath/quantpath/count/Budget", "<init>", "(J)V"⟩ : MethodName)) rfl hown (mvT hZ (hw _ (List.mem_of_getElem? (i := 9) rfl))) (mvT hZ (hw _ (List.mem_of_getElem? (i := 10) rfl))) (mvT hZ (hw _ (List.mem_of_getElem? (i := 11) rfl))) (by decide) (own_backN (W := 1) (rm_bu l Z a0 hw [] b371 lf 0 h371 n0 Zs376 O374 A371 F377 ge372 h369) hZ (hw _ (List.mem_of_getElem? (i := 11) rfl)) (hw _ (List.mem_of_getElem? (i := 8) rfl)) (by decide) (by decide)) (g := (mkF m 49 #[.val (.long p1), .second, .val (.int p2), .val (.int p3), .val (.int p4), .val (.long (p2.toInt64 &&& (2147483647 : Int64))), .second, .val (.long lf), .second, .val (.int f1), .unset, .unset, .unset, .unset] [(.long lf), (.ref b371), (.ref b371)])) rfl (by rw [hml]; rfl) (Steps.refl _) (a := b371) (argsL := [(.long lf)]) (rest := [(.ref b371)]) (lenOf lw_pd1 rfl) rfl (by show 2 * 0 + _ ≤ _; exact Nat.le_of_eq rfl) (hb hby at_49) (fun _ _ => ⟨rfl, e371, Nat.le_of_ble_eq_true rfl, Nat.le_of_ble_eq_true rfl⟩)
    dsimp only [Pt.U, Pt.locs, Pt.cells, Pt.slots] at X378 l378 y378 z378 st378 hQ378
    subst l378 y378 z378
    obtain ⟨rfl, N378q, K378, F378⟩ := hQ378
    refine own_seq st378 ?_
    have N378 := Fr.app N370 N378q
    have O379 := O374.keep K378 (allS ge372 all0)
    have KP380 := KP375.trans K378 (allS (Or.inr sz373) all0)
    have Zs381 := Nat.le_trans Zs376 K378.1
    have f382 := A371.keep K378
    show OwnGo p e below (T378.setTop (mkF m 52 #[.val (.long p1), .second, .val (.int p2), .val (.int p3), .val (.int p4), .val (.long (p2.toInt64 &&& (2147483647 : Int64))), .second, .val (.long lf), .second, .val (.int f1), .unset, .unset, .unset, .unset] [(.ref b371)])) _
    refine own_back (fun t k => XS.astore X378.here hx rfl (hb hby at_52) rfl rfl (l' := #[.val (.long p1), .second, .val (.int p2), .val (.int p3), .val (.int p4), .val (.long (p2.toInt64 &&& (2147483647 : Int64))), .second, .val (.long lf), .second, .val (.int f1), .val (.ref b371), .unset, .unset, .unset]) rfl k) ?_
    show OwnGo p e below (T378.setTop (mkF m 54 #[.val (.long p1), .second, .val (.int p2), .val (.int p3), .val (.int p4), .val (.long (p2.toInt64 &&& (2147483647 : Int64))), .second, .val (.long lf), .second, .val (.int f1), .val (.ref b371), .unset, .unset, .unset] [])) _
    refine own_back (fun t k => XS.aload X378.here hx rfl (hb hby at_54) rfl rfl k) ?_
    show OwnGo p e below (T378.setTop (mkF m 56 #[.val (.long p1), .second, .val (.int p2), .val (.int p3), .val (.int p4), .val (.long (p2.toInt64 &&& (2147483647 : Int64))), .second, .val (.long lf), .second, .val (.int f1), .val (.ref b371), .unset, .unset, .unset] [(.ref b371)])) _
    refine own_back (fun t k => XS.iload X378.here hx rfl (hb hby at_56) rfl k) ?_
    show OwnGo p e below (T378.setTop (mkF m 58 #[.val (.long p1), .second, .val (.int p2), .val (.int p3), .val (.int p4), .val (.long (p2.toInt64 &&& (2147483647 : Int64))), .second, .val (.long lf), .second, .val (.int f1), .val (.ref b371), .unset, .unset, .unset] [(.int f1), (.ref b371)])) _
    obtain ⟨cq383, kq383, q383a, q383b, q383c⟩ := isOf hZ rfl f382
    obtain ⟨_, _, ⟨T383, L383, k383, n383⟩, -, X383, ⟨Lc383, hQ383, l383, y383, z383⟩, st383⟩ := X378.virtualBack hx (y := (⟨"com/example/quantpath/quantpath/count/Budget", "spend", "(I)V"⟩ : MethodName)) (z := (⟨"com/example/quantpath/quantpath/count/Budget", "spend", "(I)V"⟩ : MethodName)) hown (mvT hZ (hw _ (List.mem_of_getElem? (i := 17) rfl))) (mvT hZ (hw _ (List.mem_of_getElem? (i := 18) rfl))) (notFace_of_selects (args := #[]) (mvT hZ (hw _ (List.mem_of_getElem? (i := 20) rfl)))) (mvT hZ (hw _ (List.mem_of_getElem? (i := 20) rfl))) (mvT hZ (hw _ (List.mem_of_getElem? (i := 19) rfl))) (by decide) (own_backN (W := 0) (rm_sp l Z a0 hw [] b371 f1 lf T378.heap n0 Zs381 O379 f382 F378 ge372 hf1.2.1) hZ (hw _ (List.mem_of_getElem? (i := 21) rfl)) (hw _ (List.mem_of_getElem? (i := 8) rfl)) (by decide) (by decide)) q383a q383c (g := (mkF m 58 #[.val (.long p1), .second, .val (.int p2), .val (.int p3), .val (.int p4), .val (.long (p2.toInt64 &&& (2147483647 : Int64))), .second, .val (.long lf), .second, .val (.int f1), .val (.ref b371), .unset, .unset, .unset] [(.int f1), (.ref b371)])) rfl (by rw [hml]; rfl) (Steps.refl _) (argsL := [(.int f1)]) (rest := []) (lenOf lw_pd2 rfl) rfl (by show 2 * 0 + _ ≤ _; exact Nat.le_of_eq rfl) (hb hby at_58) (fun _ _ => ⟨rfl, rfl, Nat.le_of_ble_eq_true rfl, Nat.le_of_ble_eq_true rfl⟩)
    dsimp only [Pt.U, Pt.locs, Pt.cells, Pt.slots] at X383 l383 y383 z383 st383 hQ383
    subst l383 y383 z383
    obtain ⟨rfl, N383q, K383, F383⟩ := hQ383
    refine own_seq st383 ?_
    have N383 := Fr.app N378 N383q
    have O384 := O379.keep K383 (allS ge372 all0)
    have KP385 := KP380.trans K383 (allS (Or.inr sz373) all0)
    have Zs386 := Nat.le_trans Zs381 K383.1
    have f387 := f382.keep K383
    show OwnGo p e below (T383.setTop (mkF m 61 #[.val (.long p1), .second, .val (.int p2), .val (.int p3), .val (.int p4), .val (.long (p2.toInt64 &&& (2147483647 : Int64))), .second, .val (.long lf), .second, .val (.int f1), .val (.ref b371), .unset, .unset, .unset] [])) _
    refine own_back (fun t k => XS.lload X383.here hx rfl (hb hby at_61) rfl k) ?_
    show OwnGo p e below (T383.setTop (mkF m 63 #[.val (.long p1), .second, .val (.int p2), .val (.int p3), .val (.int p4), .val (.long (p2.toInt64 &&& (2147483647 : Int64))), .second, .val (.long lf), .second, .val (.int f1), .val (.ref b371), .unset, .unset, .unset] [(.long lf)])) _
    refine own_back (fun t k => XS.iload X383.here hx rfl (hb hby at_63) rfl k) ?_
    show OwnGo p e below (T383.setTop (mkF m 65 #[.val (.long p1), .second, .val (.int p2), .val (.int p3), .val (.int p4), .val (.long (p2.toInt64 &&& (2147483647 : Int64))), .second, .val (.long lf), .second, .val (.int f1), .val (.ref b371), .unset, .unset, .unset] [(.int f1), (.long lf)])) _
    refine own_back (fun t k => XS.i2l X383.here hx rfl (hb hby at_65) rfl k) ?_
    show OwnGo p e below (T383.setTop (mkF m 66 #[.val (.long p1), .second, .val (.int p2), .val (.int p3), .val (.int p4), .val (.long (p2.toInt64 &&& (2147483647 : Int64))), .second, .val (.long lf), .second, .val (.int f1), .val (.ref b371), .unset, .unset, .unset] [(.long f1.toInt64), (.long lf)])) _
    refine own_back (fun t k => XS.lsub X383.here hx rfl (hb hby at_66) rfl k) ?_
    show OwnGo p e below (T383.setTop (mkF m 67 #[.val (.long p1), .second, .val (.int p2), .val (.int p3), .val (.int p4), .val (.long (p2.toInt64 &&& (2147483647 : Int64))), .second, .val (.long lf), .second, .val (.int f1), .val (.ref b371), .unset, .unset, .unset] [(.long (lf - f1.toInt64))])) _
    refine own_back (fun t k => XS.lstore X383.here hx rfl (hb hby at_67) rfl (l' := #[.val (.long p1), .second, .val (.int p2), .val (.int p3), .val (.int p4), .val (.long (p2.toInt64 &&& (2147483647 : Int64))), .second, .val (.long lf), .second, .val (.int f1), .val (.ref b371), .val (.long (lf - f1.toInt64)), .second, .unset]) rfl k) ?_
    show OwnGo p e below (T383.setTop (mkF m 69 #[.val (.long p1), .second, .val (.int p2), .val (.int p3), .val (.int p4), .val (.long (p2.toInt64 &&& (2147483647 : Int64))), .second, .val (.long lf), .second, .val (.int f1), .val (.ref b371), .val (.long (lf - f1.toInt64)), .second, .unset] [])) _
    have hr1 := hf1.2.2
    obtain ⟨r1, er1⟩ : ∃ z : Int64, z = (lf - f1.toInt64) := ⟨_, rfl⟩
    rw [← er1] at hr1 F383
    rw [← er1]
    show OwnGo p e below (T383.setTop (mkF m 69 #[.val (.long p1), .second, .val (.int p2), .val (.int p3), .val (.int p4), .val (.long (p2.toInt64 &&& (2147483647 : Int64))), .second, .val (.long lf), .second, .val (.int f1), .val (.ref b371), .val (.long r1), .second, .unset] [])) _
    refine own_back (fun t k => XS.aload X383.here hx rfl (hb hby at_69) rfl rfl k) ?_
    show OwnGo p e below (T383.setTop (mkF m 71 #[.val (.long p1), .second, .val (.int p2), .val (.int p3), .val (.int p4), .val (.long (p2.toInt64 &&& (2147483647 : Int64))), .second, .val (.long lf), .second, .val (.int f1), .val (.ref b371), .val (.long r1), .second, .unset] [(.ref b371)])) _
    refine own_back (fun t k => XS.lload X383.here hx rfl (hb hby at_71) rfl k) ?_
    show OwnGo p e below (T383.setTop (mkF m 73 #[.val (.long p1), .second, .val (.int p2), .val (.int p3), .val (.int p4), .val (.long (p2.toInt64 &&& (2147483647 : Int64))), .second, .val (.long lf), .second, .val (.int f1), .val (.ref b371), .val (.long r1), .second, .unset] [(.long r1), (.ref b371)])) _
    obtain ⟨_, _, ⟨T388, L388, k388, n388⟩, -, X388, ⟨Lc388, hQ388, l388, y388, z388⟩, st388⟩ := Jvm.LawKit.callS X383 hx (y := (⟨"com/example/quantpath/quantpath/count/BudgetSpendPinLaw", "exactly", "(Lcom/example/quantpath/quantpath/count/Budget;J)Z"⟩ : MethodName)) hown (mvT hZ (hw _ (List.mem_of_getElem? (i := 22) rfl))) (mvT hZ (hw _ (List.mem_of_getElem? (i := 23) rfl))) (mvT hZ (hw _ (List.mem_of_getElem? (i := 24) rfl))) (mvT hZ (hw _ (List.mem_of_getElem? (i := 25) rfl))) (by decide) (own_backN (W := 0) (rm_ex l Z a0 hw [] b371 r1 wz wp cp T383.heap n0 Zs386 O384 SZ SP BZ AP nP HP f387 F383 hr1) hZ (hw _ (List.mem_of_getElem? (i := 25) rfl)) (hw _ (List.mem_of_getElem? (i := 24) rfl)) (by decide) (by decide)) (g := (mkF m 73 #[.val (.long p1), .second, .val (.int p2), .val (.int p3), .val (.int p4), .val (.long (p2.toInt64 &&& (2147483647 : Int64))), .second, .val (.long lf), .second, .val (.int f1), .val (.ref b371), .val (.long r1), .second, .unset] [(.long r1), (.ref b371)])) rfl (by rw [hml]; rfl) (argsL := [(.ref b371), (.long r1)]) (rest := []) (lenOf lw_pd3 rfl) rfl (by show 2 * 0 + _ ≤ _; exact Nat.le_of_eq rfl) (hb hby at_73) (fun _ _ => ⟨rfl, rfl, Nat.le_of_ble_eq_true rfl, Nat.le_of_ble_eq_true rfl⟩)
    dsimp only [Pt.U, Pt.locs, Pt.cells, Pt.slots] at X388 l388 y388 z388 st388 hQ388
    subst l388 y388 z388
    obtain ⟨rfl, N388q, E388⟩ := hQ388
    refine own_back st388 ?_
    have N388 := Fr.app N383 N388q
    have O389 := O384.ext E388
    have KP390 := KP385.ext E388
    have Zs391 := Nat.le_trans Zs386 E388.1
    have f392 := f387.ext E388
    have f393 := F383.ext E388
    show OwnGo p e below (T388.setTop (mkF m 76 #[.val (.long p1), .second, .val (.int p2), .val (.int p3), .val (.int p4), .val (.long (p2.toInt64 &&& (2147483647 : Int64))), .second, .val (.long lf), .second, .val (.int f1), .val (.ref b371), .val (.long r1), .second, .unset] [(.int (1 : Int32))])) _
    refine own_back (fun t k => XS.ifYes X388.here hx rfl (pc0 := 76) (pc' := 81) rfl (hb hby at_76) rfl (Jvm.Free.XT.i0_ne_t (by decide)) (by decide) (by decide) k) ?_
    show OwnGo p e below (T388.setTop (mkF m 81 #[.val (.long p1), .second, .val (.int p2), .val (.int p3), .val (.int p4), .val (.long (p2.toInt64 &&& (2147483647 : Int64))), .second, .val (.long lf), .second, .val (.int f1), .val (.ref b371), .val (.long r1), .second, .unset] [])) _
    refine own_back (fun t k => XS.iload X388.here hx rfl (hb hby at_81) rfl k) ?_
    show OwnGo p e below (T388.setTop (mkF m 83 #[.val (.long p1), .second, .val (.int p2), .val (.int p3), .val (.int p4), .val (.long (p2.toInt64 &&& (2147483647 : Int64))), .second, .val (.long lf), .second, .val (.int f1), .val (.ref b371), .val (.long r1), .second, .unset] [(.int p4)])) _
    refine own_back (fun t k => XS.iconst X388.here hx rfl (hb hby at_83) k) ?_
    show OwnGo p e below (T388.setTop (mkF m 84 #[.val (.long p1), .second, .val (.int p2), .val (.int p3), .val (.int p4), .val (.long (p2.toInt64 &&& (2147483647 : Int64))), .second, .val (.long lf), .second, .val (.int f1), .val (.ref b371), .val (.long r1), .second, .unset] [(.int (2 : Int32)), (.int p4)])) _
    refine own_back (fun t k => XS.iand X388.here hx rfl (hb hby at_84) rfl k) ?_
    show OwnGo p e below (T388.setTop (mkF m 85 #[.val (.long p1), .second, .val (.int p2), .val (.int p3), .val (.int p4), .val (.long (p2.toInt64 &&& (2147483647 : Int64))), .second, .val (.long lf), .second, .val (.int f1), .val (.ref b371), .val (.long r1), .second, .unset] [(.int (p4 &&& (2 : Int32)))])) _
    by_cases hc85_394 : (p4 &&& (2 : Int32)) = (0 : Int32)
    · refine own_back (fun t k => XS.ifYes X388.here hx rfl (pc0 := 85) (pc' := 102) rfl (hb hby at_85) rfl (Jvm.Free.XT.i0_eq_t hc85_394) (by decide) (by decide) k) ?_
      show OwnGo p e below (T388.setTop (mkF m 102 #[.val (.long p1), .second, .val (.int p2), .val (.int p3), .val (.int p4), .val (.long (p2.toInt64 &&& (2147483647 : Int64))), .second, .val (.long lf), .second, .val (.int f1), .val (.ref b371), .val (.long r1), .second, .unset] [])) _
      refine own_back (fun t k => XS.iloadN X388.here hx rfl (hb hby at_102) rfl k) ?_
      show OwnGo p e below (T388.setTop (mkF m 103 #[.val (.long p1), .second, .val (.int p2), .val (.int p3), .val (.int p4), .val (.long (p2.toInt64 &&& (2147483647 : Int64))), .second, .val (.long lf), .second, .val (.int f1), .val (.ref b371), .val (.long r1), .second, .unset] [(.int p3)])) _
      refine own_back (fun t k => XS.i2l X388.here hx rfl (hb hby at_103) rfl k) ?_
      show OwnGo p e below (T388.setTop (mkF m 104 #[.val (.long p1), .second, .val (.int p2), .val (.int p3), .val (.int p4), .val (.long (p2.toInt64 &&& (2147483647 : Int64))), .second, .val (.long lf), .second, .val (.int f1), .val (.ref b371), .val (.long r1), .second, .unset] [(.long p3.toInt64)])) _
      refine own_back (fun t k => X388.ldc2Long hx hown (mvT hZ (hw _ (List.mem_of_getElem? (i := 0) rfl))) (g := (mkF m 104 #[.val (.long p1), .second, .val (.int p2), .val (.int p3), .val (.int p4), .val (.long (p2.toInt64 &&& (2147483647 : Int64))), .second, .val (.long lf), .second, .val (.int f1), .val (.ref b371), .val (.long r1), .second, .unset] [(.long p3.toInt64)])) rfl (hb hby at_104) t k) ?_
      show OwnGo p e below (T388.setTop (mkF m 107 #[.val (.long p1), .second, .val (.int p2), .val (.int p3), .val (.int p4), .val (.long (p2.toInt64 &&& (2147483647 : Int64))), .second, .val (.long lf), .second, .val (.int f1), .val (.ref b371), .val (.long r1), .second, .unset] [(.long (2147483647 : Int64)), (.long p3.toInt64)])) _
      refine own_back (fun t k => XS.land X388.here hx rfl (hb hby at_107) rfl k) ?_
      show OwnGo p e below (T388.setTop (mkF m 108 #[.val (.long p1), .second, .val (.int p2), .val (.int p3), .val (.int p4), .val (.long (p2.toInt64 &&& (2147483647 : Int64))), .second, .val (.long lf), .second, .val (.int f1), .val (.ref b371), .val (.long r1), .second, .unset] [(.long (p3.toInt64 &&& (2147483647 : Int64)))])) _
      refine own_back (fun t k => XS.lload X388.here hx rfl (hb hby at_108) rfl k) ?_
      show OwnGo p e below (T388.setTop (mkF m 110 #[.val (.long p1), .second, .val (.int p2), .val (.int p3), .val (.int p4), .val (.long (p2.toInt64 &&& (2147483647 : Int64))), .second, .val (.long lf), .second, .val (.int f1), .val (.ref b371), .val (.long r1), .second, .unset] [(.long r1), (.long (p3.toInt64 &&& (2147483647 : Int64)))])) _
      obtain ⟨_, _, ⟨T395, L395, k395, n395⟩, -, X395, ⟨Lc395, hQ395, l395, y395, z395⟩, st395⟩ := Jvm.LawKit.callS X388 hx (y := (⟨"java/lang/Math", "min", "(JJ)J"⟩ : MethodName)) hown (mvT hZ (hw _ (List.mem_of_getElem? (i := 2) rfl))) (mvT hZ (hw _ (List.mem_of_getElem? (i := 3) rfl))) (mvT hZ (hw _ (List.mem_of_getElem? (i := 4) rfl))) (mvT hZ (hw _ (List.mem_of_getElem? (i := 5) rfl))) (by decide) (own_backN (W := 0) (rm_mi l Z a0 hw [] (p3.toInt64 &&& (2147483647 : Int64)) r1 T388.heap n0 Zs391) hZ (hw _ (List.mem_of_getElem? (i := 5) rfl)) (hw _ (List.mem_of_getElem? (i := 4) rfl)) (by decide) (by decide)) (g := (mkF m 110 #[.val (.long p1), .second, .val (.int p2), .val (.int p3), .val (.int p4), .val (.long (p2.toInt64 &&& (2147483647 : Int64))), .second, .val (.long lf), .second, .val (.int f1), .val (.ref b371), .val (.long r1), .second, .unset] [(.long r1), (.long (p3.toInt64 &&& (2147483647 : Int64)))])) rfl (by rw [hml]; rfl) (argsL := [(.long (p3.toInt64 &&& (2147483647 : Int64))), (.long r1)]) (rest := []) (lenOf lw_pd0 rfl) rfl (by show 2 * 0 + _ ≤ _; exact Nat.le_of_eq rfl) (hb hby at_110) (fun _ _ => ⟨rfl, rfl, Nat.le_of_ble_eq_true rfl, Nat.le_of_ble_eq_true rfl⟩)
      dsimp only [Pt.U, Pt.locs, Pt.cells, Pt.slots] at X395 l395 y395 z395 st395 hQ395
      subst l395 y395 z395
      obtain ⟨rfl, N395q, hh395⟩ := hQ395
      refine own_back st395 ?_
      have N395 := Fr.app N388 N395q
      show OwnGo p e below (T395.setTop (mkF m 113 #[.val (.long p1), .second, .val (.int p2), .val (.int p3), .val (.int p4), .val (.long (p2.toInt64 &&& (2147483647 : Int64))), .second, .val (.long lf), .second, .val (.int f1), .val (.ref b371), .val (.long r1), .second, .unset] [(.long (own_min (p3.toInt64 &&& (2147483647 : Int64)) r1))])) _
      refine own_back (fun t k => XS.l2i X395.here hx rfl (hb hby at_113) rfl k) ?_
      show OwnGo p e below (T395.setTop (mkF m 114 #[.val (.long p1), .second, .val (.int p2), .val (.int p3), .val (.int p4), .val (.long (p2.toInt64 &&& (2147483647 : Int64))), .second, .val (.long lf), .second, .val (.int f1), .val (.ref b371), .val (.long r1), .second, .unset] [(.int (own_min (p3.toInt64 &&& (2147483647 : Int64)) r1).toInt32)])) _
      have hf2' := own_first (own_mnn p3).1 hr1 (Or.inl (own_mnn p3).2)
      have hf2 := hf2'.2
      obtain ⟨f2, ef2⟩ : ∃ z : Int32, z = (own_min (p3.toInt64 &&& (2147483647 : Int64)) r1).toInt32 := ⟨_, rfl⟩
      rw [← ef2] at hf2
      rw [← ef2]
      show OwnGo p e below (T395.setTop (mkF m 114 #[.val (.long p1), .second, .val (.int p2), .val (.int p3), .val (.int p4), .val (.long (p2.toInt64 &&& (2147483647 : Int64))), .second, .val (.long lf), .second, .val (.int f1), .val (.ref b371), .val (.long r1), .second, .unset] [(.int f2)])) _
      refine own_back (fun t k => XS.istore X395.here hx rfl (hb hby at_114) rfl (l' := #[.val (.long p1), .second, .val (.int p2), .val (.int p3), .val (.int p4), .val (.long (p2.toInt64 &&& (2147483647 : Int64))), .second, .val (.long lf), .second, .val (.int f1), .val (.ref b371), .val (.long r1), .second, .val (.int f2)]) rfl k) ?_
      show OwnGo p e below (T395.setTop (mkF m 116 #[.val (.long p1), .second, .val (.int p2), .val (.int p3), .val (.int p4), .val (.long (p2.toInt64 &&& (2147483647 : Int64))), .second, .val (.long lf), .second, .val (.int f1), .val (.ref b371), .val (.long r1), .second, .val (.int f2)] [])) _
      refine own_back (fun t k => XS.aload X395.here hx rfl (hb hby at_116) rfl rfl k) ?_
      show OwnGo p e below (T395.setTop (mkF m 118 #[.val (.long p1), .second, .val (.int p2), .val (.int p3), .val (.int p4), .val (.long (p2.toInt64 &&& (2147483647 : Int64))), .second, .val (.long lf), .second, .val (.int f1), .val (.ref b371), .val (.long r1), .second, .val (.int f2)] [(.ref b371)])) _
      refine own_back (fun t k => XS.iload X395.here hx rfl (hb hby at_118) rfl k) ?_
      show OwnGo p e below (T395.setTop (mkF m 120 #[.val (.long p1), .second, .val (.int p2), .val (.int p3), .val (.int p4), .val (.long (p2.toInt64 &&& (2147483647 : Int64))), .second, .val (.long lf), .second, .val (.int f1), .val (.ref b371), .val (.long r1), .second, .val (.int f2)] [(.int f2), (.ref b371)])) _
      obtain ⟨cq396, kq396, q396a, q396b, q396c⟩ := isOf hZ hh395 f392
      obtain ⟨_, _, ⟨T396, L396, k396, n396⟩, -, X396, ⟨Lc396, hQ396, l396, y396, z396⟩, st396⟩ := X395.virtualBack hx (y := (⟨"com/example/quantpath/quantpath/count/Budget", "spend", "(I)V"⟩ : MethodName)) (z := (⟨"com/example/quantpath/quantpath/count/Budget", "spend", "(I)V"⟩ : MethodName)) hown (mvT hZ (hw _ (List.mem_of_getElem? (i := 17) rfl))) (mvT hZ (hw _ (List.mem_of_getElem? (i := 18) rfl))) (notFace_of_selects (args := #[]) (mvT hZ (hw _ (List.mem_of_getElem? (i := 20) rfl)))) (mvT hZ (hw _ (List.mem_of_getElem? (i := 20) rfl))) (mvT hZ (hw _ (List.mem_of_getElem? (i := 19) rfl))) (by decide) (own_backN (W := 0) (rm_sp l Z a0 hw [] b371 f2 r1 T388.heap n0 Zs391 O389 f392 f393 ge372 hf2.1) hZ (hw _ (List.mem_of_getElem? (i := 21) rfl)) (hw _ (List.mem_of_getElem? (i := 8) rfl)) (by decide) (by decide)) q396a q396c (g := (mkF m 120 #[.val (.long p1), .second, .val (.int p2), .val (.int p3), .val (.int p4), .val (.long (p2.toInt64 &&& (2147483647 : Int64))), .second, .val (.long lf), .second, .val (.int f1), .val (.ref b371), .val (.long r1), .second, .val (.int f2)] [(.int f2), (.ref b371)])) rfl (by rw [hml]; rfl) (Steps.refl _) (argsL := [(.int f2)]) (rest := []) (lenOf lw_pd2 rfl) rfl (by show 2 * 0 + _ ≤ _; exact Nat.le_of_eq rfl) (hb hby at_120) (fun _ _ => ⟨rfl, hh395, Nat.le_of_ble_eq_true rfl, Nat.le_of_ble_eq_true rfl⟩)
      dsimp only [Pt.U, Pt.locs, Pt.cells, Pt.slots] at X396 l396 y396 z396 st396 hQ396
      subst l396 y396 z396
      obtain ⟨rfl, N396q, K396, F396⟩ := hQ396
      refine own_seq st396 ?_
      have N396 := Fr.app N395 N396q
      have O397 := O389.keep K396 (allS ge372 all0)
      have KP398 := KP390.trans K396 (allS (Or.inr sz373) all0)
      have Zs399 := Nat.le_trans Zs391 K396.1
      have f400 := f392.keep K396
      show OwnGo p e below (T396.setTop (mkF m 123 #[.val (.long p1), .second, .val (.int p2), .val (.int p3), .val (.int p4), .val (.long (p2.toInt64 &&& (2147483647 : Int64))), .second, .val (.long lf), .second, .val (.int f1), .val (.ref b371), .val (.long r1), .second, .val (.int f2)] [])) _
      refine own_back (fun t k => XS.aload X396.here hx rfl (hb hby at_123) rfl rfl k) ?_
      show OwnGo p e below (T396.setTop (mkF m 125 #[.val (.long p1), .second, .val (.int p2), .val (.int p3), .val (.int p4), .val (.long (p2.toInt64 &&& (2147483647 : Int64))), .second, .val (.long lf), .second, .val (.int f1), .val (.ref b371), .val (.long r1), .second, .val (.int f2)] [(.ref b371)])) _
      refine own_back (fun t k => XS.lload X396.here hx rfl (hb hby at_125) rfl k) ?_
      show OwnGo p e below (T396.setTop (mkF m 127 #[.val (.long p1), .second, .val (.int p2), .val (.int p3), .val (.int p4), .val (.long (p2.toInt64 &&& (2147483647 : Int64))), .second, .val (.long lf), .second, .val (.int f1), .val (.ref b371), .val (.long r1), .second, .val (.int f2)] [(.long r1), (.ref b371)])) _
      refine own_back (fun t k => XS.iload X396.here hx rfl (hb hby at_127) rfl k) ?_
      show OwnGo p e below (T396.setTop (mkF m 129 #[.val (.long p1), .second, .val (.int p2), .val (.int p3), .val (.int p4), .val (.long (p2.toInt64 &&& (2147483647 : Int64))), .second, .val (.long lf), .second, .val (.int f1), .val (.ref b371), .val (.long r1), .second, .val (.int f2)] [(.int f2), (.long r1), (.ref b371)])) _
      refine own_back (fun t k => XS.i2l X396.here hx rfl (hb hby at_129) rfl k) ?_
      show OwnGo p e below (T396.setTop (mkF m 130 #[.val (.long p1), .second, .val (.int p2), .val (.int p3), .val (.int p4), .val (.long (p2.toInt64 &&& (2147483647 : Int64))), .second, .val (.long lf), .second, .val (.int f1), .val (.ref b371), .val (.long r1), .second, .val (.int f2)] [(.long f2.toInt64), (.long r1), (.ref b371)])) _
      refine own_back (fun t k => XS.lsub X396.here hx rfl (hb hby at_130) rfl k) ?_
      show OwnGo p e below (T396.setTop (mkF m 131 #[.val (.long p1), .second, .val (.int p2), .val (.int p3), .val (.int p4), .val (.long (p2.toInt64 &&& (2147483647 : Int64))), .second, .val (.long lf), .second, .val (.int f1), .val (.ref b371), .val (.long r1), .second, .val (.int f2)] [(.long (r1 - f2.toInt64)), (.ref b371)])) _
      obtain ⟨_, _, ⟨T401, L401, k401, n401⟩, -, X401, ⟨Lc401, hQ401, l401, y401, z401⟩, st401⟩ := Jvm.LawKit.callS X396 hx (y := (⟨"com/example/quantpath/quantpath/count/BudgetSpendPinLaw", "exactly", "(Lcom/example/quantpath/quantpath/count/Budget;J)Z"⟩ : MethodName)) hown (mvT hZ (hw _ (List.mem_of_getElem? (i := 22) rfl))) (mvT hZ (hw _ (List.mem_of_getElem? (i := 23) rfl))) (mvT hZ (hw _ (List.mem_of_getElem? (i := 24) rfl))) (mvT hZ (hw _ (List.mem_of_getElem? (i := 25) rfl))) (by decide) (own_backN (W := 0) (rm_ex l Z a0 hw [] b371 (r1 - f2.toInt64) wz wp cp T396.heap n0 Zs399 O397 SZ SP BZ AP nP HP f400 F396 hf2.2) hZ (hw _ (List.mem_of_getElem? (i := 25) rfl)) (hw _ (List.mem_of_getElem? (i := 24) rfl)) (by decide) (by decide)) (g := (mkF m 131 #[.val (.long p1), .second, .val (.int p2), .val (.int p3), .val (.int p4), .val (.long (p2.toInt64 &&& (2147483647 : Int64))), .second, .val (.long lf), .second, .val (.int f1), .val (.ref b371), .val (.long r1), .second, .val (.int f2)] [(.long (r1 - f2.toInt64)), (.ref b371)])) rfl (by rw [hml]; rfl) (argsL := [(.ref b371), (.long (r1 - f2.toInt64))]) (rest := []) (lenOf lw_pd3 rfl) rfl (by show 2 * 0 + _ ≤ _; exact Nat.le_of_eq rfl) (hb hby at_131) (fun _ _ => ⟨rfl, rfl, Nat.le_of_ble_eq_true rfl, Nat.le_of_ble_eq_true rfl⟩)
      dsimp only [Pt.U, Pt.locs, Pt.cells, Pt.slots] at X401 l401 y401 z401 st401 hQ401
      subst l401 y401 z401
      obtain ⟨rfl, N401q, E401⟩ := hQ401
      refine own_back st401 ?_
      have N401 := Fr.app N396 N401q
      have O402 := O397.ext E401
      have KP403 := KP398.ext E401
      have Zs404 := Nat.le_trans Zs399 E401.1
      have f405 := f400.ext E401
      have f406 := F396.ext E401
      show OwnGo p e below (T401.setTop (mkF m 134 #[.val (.long p1), .second, .val (.int p2), .val (.int p3), .val (.int p4), .val (.long (p2.toInt64 &&& (2147483647 : Int64))), .second, .val (.long lf), .second, .val (.int f1), .val (.ref b371), .val (.long r1), .second, .val (.int f2)] [(.int (1 : Int32))])) _
      refine own_retN X401 hx Bd.notSynchronized (t := .boolean) (z := (1 : Int32)) Bd.returns (by simp) rfl (hb hby at_134) rfl (Nat.le_of_ble_eq_true rfl) (Nat.le_of_ble_eq_true rfl) ?_
      exact ⟨rfl, N401⟩
    · refine own_back (fun t k => XS.ifNo X388.here hx rfl (hb hby at_85) rfl (Jvm.Free.XT.i0_eq_f hc85_394) k) ?_
      show OwnGo p e below (T388.setTop (mkF m 88 #[.val (.long p1), .second, .val (.int p2), .val (.int p3), .val (.int p4), .val (.long (p2.toInt64 &&& (2147483647 : Int64))), .second, .val (.long lf), .second, .val (.int f1), .val (.ref b371), .val (.long r1), .second, .unset] [])) _
      refine own_back (fun t k => XS.lload X388.here hx rfl (hb hby at_88) rfl k) ?_
      show OwnGo p e below (T388.setTop (mkF m 90 #[.val (.long p1), .second, .val (.int p2), .val (.int p3), .val (.int p4), .val (.long (p2.toInt64 &&& (2147483647 : Int64))), .second, .val (.long lf), .second, .val (.int f1), .val (.ref b371), .val (.long r1), .second, .unset] [(.long r1)])) _
      refine own_back (fun t k => X388.ldc2Long hx hown (mvT hZ (hw _ (List.mem_of_getElem? (i := 0) rfl))) (g := (mkF m 90 #[.val (.long p1), .second, .val (.int p2), .val (.int p3), .val (.int p4), .val (.long (p2.toInt64 &&& (2147483647 : Int64))), .second, .val (.long lf), .second, .val (.int f1), .val (.ref b371), .val (.long r1), .second, .unset] [(.long r1)])) rfl (hb hby at_90) t k) ?_
      show OwnGo p e below (T388.setTop (mkF m 93 #[.val (.long p1), .second, .val (.int p2), .val (.int p3), .val (.int p4), .val (.long (p2.toInt64 &&& (2147483647 : Int64))), .second, .val (.long lf), .second, .val (.int f1), .val (.ref b371), .val (.long r1), .second, .unset] [(.long (2147483647 : Int64)), (.long r1)])) _
      obtain ⟨_, _, ⟨T407, L407, k407, n407⟩, -, X407, ⟨Lc407, hQ407, l407, y407, z407⟩, st407⟩ := Jvm.LawKit.callS X388 hx (y := (⟨"java/lang/Math", "min", "(JJ)J"⟩ : MethodName)) hown (mvT hZ (hw _ (List.mem_of_getElem? (i := 2) rfl))) (mvT hZ (hw _ (List.mem_of_getElem? (i := 3) rfl))) (mvT hZ (hw _ (List.mem_of_getElem? (i := 4) rfl))) (mvT hZ (hw _ (List.mem_of_getElem? (i := 5) rfl))) (by decide) (own_backN (W := 0) (rm_mi l Z a0 hw [] r1 (2147483647 : Int64) T388.heap n0 Zs391) hZ (hw _ (List.mem_of_getElem? (i := 5) rfl)) (hw _ (List.mem_of_getElem? (i := 4) rfl)) (by decide) (by decide)) (g := (mkF m 93 #[.val (.long p1), .second, .val (.int p2), .val (.int p3), .val (.int p4), .val (.long (p2.toInt64 &&& (2147483647 : Int64))), .second, .val (.long lf), .second, .val (.int f1), .val (.ref b371), .val (.long r1), .second, .unset] [(.long (2147483647 : Int64)), (.long r1)])) rfl (by rw [hml]; rfl) (argsL := [(.long r1), (.long (2147483647 : Int64))]) (rest := []) (lenOf lw_pd0 rfl) rfl (by show 2 * 0 + _ ≤ _; exact Nat.le_of_eq rfl) (hb hby at_93) (fun _ _ => ⟨rfl, rfl, Nat.le_of_ble_eq_true rfl, Nat.le_of_ble_eq_true rfl⟩)
      dsimp only [Pt.U, Pt.locs, Pt.cells, Pt.slots] at X407 l407 y407 z407 st407 hQ407
      subst l407 y407 z407
      obtain ⟨rfl, N407q, hh407⟩ := hQ407
      refine own_back st407 ?_
      have N407 := Fr.app N388 N407q
      show OwnGo p e below (T407.setTop (mkF m 96 #[.val (.long p1), .second, .val (.int p2), .val (.int p3), .val (.int p4), .val (.long (p2.toInt64 &&& (2147483647 : Int64))), .second, .val (.long lf), .second, .val (.int f1), .val (.ref b371), .val (.long r1), .second, .unset] [(.long (own_min r1 (2147483647 : Int64)))])) _
      refine own_back (fun t k => XS.l2i X407.here hx rfl (hb hby at_96) rfl k) ?_
      show OwnGo p e below (T407.setTop (mkF m 97 #[.val (.long p1), .second, .val (.int p2), .val (.int p3), .val (.int p4), .val (.long (p2.toInt64 &&& (2147483647 : Int64))), .second, .val (.long lf), .second, .val (.int f1), .val (.ref b371), .val (.long r1), .second, .unset] [(.int (own_min r1 (2147483647 : Int64)).toInt32)])) _
      have hf2' := own_first (x := r1) (y := (2147483647 : Int64)) hr1 (by decide) (Or.inr (by decide))
      have hf2 := hf2'.1
      obtain ⟨f2, ef2⟩ : ∃ z : Int32, z = (own_min r1 (2147483647 : Int64)).toInt32 := ⟨_, rfl⟩
      rw [← ef2] at hf2
      rw [← ef2]
      show OwnGo p e below (T407.setTop (mkF m 97 #[.val (.long p1), .second, .val (.int p2), .val (.int p3), .val (.int p4), .val (.long (p2.toInt64 &&& (2147483647 : Int64))), .second, .val (.long lf), .second, .val (.int f1), .val (.ref b371), .val (.long r1), .second, .unset] [(.int f2)])) _
      refine own_back (fun t k => XS.istore X407.here hx rfl (hb hby at_97) rfl (l' := #[.val (.long p1), .second, .val (.int p2), .val (.int p3), .val (.int p4), .val (.long (p2.toInt64 &&& (2147483647 : Int64))), .second, .val (.long lf), .second, .val (.int f1), .val (.ref b371), .val (.long r1), .second, .val (.int f2)]) rfl k) ?_
      show OwnGo p e below (T407.setTop (mkF m 99 #[.val (.long p1), .second, .val (.int p2), .val (.int p3), .val (.int p4), .val (.long (p2.toInt64 &&& (2147483647 : Int64))), .second, .val (.long lf), .second, .val (.int f1), .val (.ref b371), .val (.long r1), .second, .val (.int f2)] [])) _
      refine own_back (fun t k => XS.goto X407.here hx rfl (pc0 := 99) (pc' := 116) rfl (hb hby at_99) (by decide) (by decide) k) ?_
      show OwnGo p e below (T407.setTop (mkF m 116 #[.val (.long p1), .second, .val (.int p2), .val (.int p3), .val (.int p4), .val (.long (p2.toInt64 &&& (2147483647 : Int64))), .second, .val (.long lf), .second, .val (.int f1), .val (.ref b371), .val (.long r1), .second, .val (.int f2)] [])) _
      refine own_back (fun t k => XS.aload X407.here hx rfl (hb hby at_116) rfl rfl k) ?_
      show OwnGo p e below (T407.setTop (mkF m 118 #[.val (.long p1), .second, .val (.int p2), .val (.int p3), .val (.int p4), .val (.long (p2.toInt64 &&& (2147483647 : Int64))), .second, .val (.long lf), .second, .val (.int f1), .val (.ref b371), .val (.long r1), .second, .val (.int f2)] [(.ref b371)])) _
      refine own_back (fun t k => XS.iload X407.here hx rfl (hb hby at_118) rfl k) ?_
      show OwnGo p e below (T407.setTop (mkF m 120 #[.val (.long p1), .second, .val (.int p2), .val (.int p3), .val (.int p4), .val (.long (p2.toInt64 &&& (2147483647 : Int64))), .second, .val (.long lf), .second, .val (.int f1), .val (.ref b371), .val (.long r1), .second, .val (.int f2)] [(.int f2), (.ref b371)])) _
      obtain ⟨cq408, kq408, q408a, q408b, q408c⟩ := isOf hZ hh407 f392
      obtain ⟨_, _, ⟨T408, L408, k408, n408⟩, -, X408, ⟨Lc408, hQ408, l408, y408, z408⟩, st408⟩ := X407.virtualBack hx (y := (⟨"com/example/quantpath/quantpath/count/Budget", "spend", "(I)V"⟩ : MethodName)) (z := (⟨"com/example/quantpath/quantpath/count/Budget", "spend", "(I)V"⟩ : MethodName)) hown (mvT hZ (hw _ (List.mem_of_getElem? (i := 17) rfl))) (mvT hZ (hw _ (List.mem_of_getElem? (i := 18) rfl))) (notFace_of_selects (args := #[]) (mvT hZ (hw _ (List.mem_of_getElem? (i := 20) rfl)))) (mvT hZ (hw _ (List.mem_of_getElem? (i := 20) rfl))) (mvT hZ (hw _ (List.mem_of_getElem? (i := 19) rfl))) (by decide) (own_backN (W := 0) (rm_sp l Z a0 hw [] b371 f2 r1 T388.heap n0 Zs391 O389 f392 f393 ge372 hf2.1) hZ (hw _ (List.mem_of_getElem? (i := 21) rfl)) (hw _ (List.mem_of_getElem? (i := 8) rfl)) (by decide) (by decide)) q408a q408c (g := (mkF m 120 #[.val (.long p1), .second, .val (.int p2), .val (.int p3), .val (.int p4), .val (.long (p2.toInt64 &&& (2147483647 : Int64))), .second, .val (.long lf), .second, .val (.int f1), .val (.ref b371), .val (.long r1), .second, .val (.int f2)] [(.int f2), (.ref b371)])) rfl (by rw [hml]; rfl) (Steps.refl _) (argsL := [(.int f2)]) (rest := []) (lenOf lw_pd2 rfl) rfl (by show 2 * 0 + _ ≤ _; exact Nat.le_of_eq rfl) (hb hby at_120) (fun _ _ => ⟨rfl, hh407, Nat.le_of_ble_eq_true rfl, Nat.le_of_ble_eq_true rfl⟩)
      dsimp only [Pt.U, Pt.locs, Pt.cells, Pt.slots] at X408 l408 y408 z408 st408 hQ408
      subst l408 y408 z408
      obtain ⟨rfl, N408q, K408, F408⟩ := hQ408
      refine own_seq st408 ?_
      have N408 := Fr.app N407 N408q
      have O409 := O389.keep K408 (allS ge372 all0)
      have KP410 := KP390.trans K408 (allS (Or.inr sz373) all0)
      have Zs411 := Nat.le_trans Zs391 K408.1
      have f412 := f392.keep K408
      show OwnGo p e below (T408.setTop (mkF m 123 #[.val (.long p1), .second, .val (.int p2), .val (.int p3), .val (.int p4), .val (.long (p2.toInt64 &&& (2147483647 : Int64))), .second, .val (.long lf), .second, .val (.int f1), .val (.ref b371), .val (.long r1), .second, .val (.int f2)] [])) _
      refine own_back (fun t k => XS.aload X408.here hx rfl (hb hby at_123) rfl rfl k) ?_
      show OwnGo p e below (T408.setTop (mkF m 125 #[.val (.long p1), .second, .val (.int p2), .val (.int p3), .val (.int p4), .val (.long (p2.toInt64 &&& (2147483647 : Int64))), .second, .val (.long lf), .second, .val (.int f1), .val (.ref b371), .val (.long r1), .second, .val (.int f2)] [(.ref b371)])) _
      refine own_back (fun t k => XS.lload X408.here hx rfl (hb hby at_125) rfl k) ?_
      show OwnGo p e below (T408.setTop (mkF m 127 #[.val (.long p1), .second, .val (.int p2), .val (.int p3), .val (.int p4), .val (.long (p2.toInt64 &&& (2147483647 : Int64))), .second, .val (.long lf), .second, .val (.int f1), .val (.ref b371), .val (.long r1), .second, .val (.int f2)] [(.long r1), (.ref b371)])) _
      refine own_back (fun t k => XS.iload X408.here hx rfl (hb hby at_127) rfl k) ?_
      show OwnGo p e below (T408.setTop (mkF m 129 #[.val (.long p1), .second, .val (.int p2), .val (.int p3), .val (.int p4), .val (.long (p2.toInt64 &&& (2147483647 : Int64))), .second, .val (.long lf), .second, .val (.int f1), .val (.ref b371), .val (.long r1), .second, .val (.int f2)] [(.int f2), (.long r1), (.ref b371)])) _
      refine own_back (fun t k => XS.i2l X408.here hx rfl (hb hby at_129) rfl k) ?_
      show OwnGo p e below (T408.setTop (mkF m 130 #[.val (.long p1), .second, .val (.int p2), .val (.int p3), .val (.int p4), .val (.long (p2.toInt64 &&& (2147483647 : Int64))), .second, .val (.long lf), .second, .val (.int f1), .val (.ref b371), .val (.long r1), .second, .val (.int f2)] [(.long f2.toInt64), (.long r1), (.ref b371)])) _
      refine own_back (fun t k => XS.lsub X408.here hx rfl (hb hby at_130) rfl k) ?_
      show OwnGo p e below (T408.setTop (mkF m 131 #[.val (.long p1), .second, .val (.int p2), .val (.int p3), .val (.int p4), .val (.long (p2.toInt64 &&& (2147483647 : Int64))), .second, .val (.long lf), .second, .val (.int f1), .val (.ref b371), .val (.long r1), .second, .val (.int f2)] [(.long (r1 - f2.toInt64)), (.ref b371)])) _
      obtain ⟨_, _, ⟨T413, L413, k413, n413⟩, -, X413, ⟨Lc413, hQ413, l413, y413, z413⟩, st413⟩ := Jvm.LawKit.callS X408 hx (y := (⟨"com/example/quantpath/quantpath/count/BudgetSpendPinLaw", "exactly", "(Lcom/example/quantpath/quantpath/count/Budget;J)Z"⟩ : MethodName)) hown (mvT hZ (hw _ (List.mem_of_getElem? (i := 22) rfl))) (mvT hZ (hw _ (List.mem_of_getElem? (i := 23) rfl))) (mvT hZ (hw _ (List.mem_of_getElem? (i := 24) rfl))) (mvT hZ (hw _ (List.mem_of_getElem? (i := 25) rfl))) (by decide) (own_backN (W := 0) (rm_ex l Z a0 hw [] b371 (r1 - f2.toInt64) wz wp cp T408.heap n0 Zs411 O409 SZ SP BZ AP nP HP f412 F408 hf2.2) hZ (hw _ (List.mem_of_getElem? (i := 25) rfl)) (hw _ (List.mem_of_getElem? (i := 24) rfl)) (by decide) (by decide)) (g := (mkF m 131 #[.val (.long p1), .second, .val (.int p2), .val (.int p3), .val (.int p4), .val (.long (p2.toInt64 &&& (2147483647 : Int64))), .second, .val (.long lf), .second, .val (.int f1), .val (.ref b371), .val (.long r1), .second, .val (.int f2)] [(.long (r1 - f2.toInt64)), (.ref b371)])) rfl (by rw [hml]; rfl) (argsL := [(.ref b371), (.long (r1 - f2.toInt64))]) (rest := []) (lenOf lw_pd3 rfl) rfl (by show 2 * 0 + _ ≤ _; exact Nat.le_of_eq rfl) (hb hby at_131) (fun _ _ => ⟨rfl, rfl, Nat.le_of_ble_eq_true rfl, Nat.le_of_ble_eq_true rfl⟩)
      dsimp only [Pt.U, Pt.locs, Pt.cells, Pt.slots] at X413 l413 y413 z413 st413 hQ413
      subst l413 y413 z413
      obtain ⟨rfl, N413q, E413⟩ := hQ413
      refine own_back st413 ?_
      have N413 := Fr.app N408 N413q
      have O414 := O409.ext E413
      have KP415 := KP410.ext E413
      have Zs416 := Nat.le_trans Zs411 E413.1
      have f417 := f412.ext E413
      have f418 := F408.ext E413
      show OwnGo p e below (T413.setTop (mkF m 134 #[.val (.long p1), .second, .val (.int p2), .val (.int p3), .val (.int p4), .val (.long (p2.toInt64 &&& (2147483647 : Int64))), .second, .val (.long lf), .second, .val (.int f1), .val (.ref b371), .val (.long r1), .second, .val (.int f2)] [(.int (1 : Int32))])) _
      refine own_retN X413 hx Bd.notSynchronized (t := .boolean) (z := (1 : Int32)) Bd.returns (by simp) rfl (hb hby at_134) rfl (Nat.le_of_ble_eq_true rfl) (Nat.le_of_ble_eq_true rfl) ?_
      exact ⟨rfl, N413⟩
theorem own_16 {r : Int64} (h1 : 0 < r) (h2 : ¬ (16 : Int64) < r) : r = 1 ∨ r = 2 ∨ r = 3 ∨ r = 4 ∨ r = 5 ∨ r = 6 ∨ r = 7 ∨ r = 8 ∨ r = 9 ∨ r = 10 ∨ r = 11 ∨ r = 12 ∨ r = 13 ∨ r = 14 ∨ r = 15 ∨ r = 16 := by
  rw [Int64.lt_iff_toInt_lt] at h1 h2
  rw [own_z64] at h1
  have z : (16 : Int64).toInt = 16 := rfl
  have c : ∀ n : Int64, r = n ↔ r.toInt = n.toInt := fun n => ⟨congrArg _, Int64.toInt_inj.mp⟩
  have : r.toInt = 1 ∨ r.toInt = 2 ∨ r.toInt = 3 ∨ r.toInt = 4 ∨ r.toInt = 5 ∨ r.toInt = 6 ∨ r.toInt = 7 ∨ r.toInt = 8 ∨ r.toInt = 9 ∨ r.toInt = 10 ∨ r.toInt = 11 ∨ r.toInt = 12 ∨ r.toInt = 13 ∨ r.toInt = 14 ∨ r.toInt = 15 ∨ r.toInt = 16 := by omega
  simp only [c]
  exact this
theorem own_bigz {s : State} {args : Array Value} {t : Term} {a : Addr} (hfit : Fit s) (et : t.eval args s none [] s = some (.ref a)) (h1 : (Cond.exactly t "java/math/BigInteger").value args s none s [] = some true) (h2 : (Cond.eq (.field t "java/math/BigInteger" "signum" "I") (.int 0)).value args s none s [] = some true)
    (h3 : (Cond.arrayOf (.field t "java/math/BigInteger" "mag" "[I") .int).value args s none s [] = some true) (h4 : (Cond.eq (.length (.field t "java/math/BigInteger" "mag" "[I")) (.int 0)).value args s none s [] = some true) : OwnBig s s.heap a 0 := by
  obtain ⟨m, em⟩ := arr_v h3
  obtain ⟨c, A⟩ := Arr.start em h3
  have n := own_len A em h4
  refine ⟨m, c.cls, 0, [], Exa.start et h1, Fld.start ((fld_at et).symm.trans (own_eqint h2)), Fld.start ((fld_at et).symm.trans em), ?_, Or.inl ⟨rfl, rfl, rfl⟩⟩
  exact Arv.start hfit A (by rw [n]; decide) (by rw [n]; rfl) (by decide) rfl trivial
theorem own_bigp {s : State} {args : Array Value} {tp : Term} {wp : Addr} {cp : Cell} {ty : FieldType} {r : Int64} {j : Int32} (hfit : Fit s) (AP : Arr s s.heap wp cp ty) (ep : tp.eval args s none [] s = some (.ref wp)) (h1 : (Cond.exactly (.elem tp (.int j)) "java/math/BigInteger").value args s none s [] = some true)
    (h2 : (Cond.eq (.field (.elem tp (.int j)) "java/math/BigInteger" "signum" "I") (.int 1)).value args s none s [] = some true) (h3 : (Cond.arrayOf (.field (.elem tp (.int j)) "java/math/BigInteger" "mag" "[I") .int).value args s none s [] = some true)
    (h4 : (Cond.eq (.length (.field (.elem tp (.int j)) "java/math/BigInteger" "mag" "[I")) (.int 1)).value args s none s [] = some true) (h5 : (Cond.eq (.elem (.field (.elem tp (.int j)) "java/math/BigInteger" "mag" "[I") (.int 0)) (.int j)).value args s none s [] = some true)
    (q1 : r.toInt32 = j) (q2 : ¬ j < 0) (q3 : 0 < r) (q4 : own_hi r = 0) : ∃ a, cp.slots[r.toInt32.toNatClampNeg]? = some (.ref a) ∧ OwnBig s s.heap a r := by
  obtain ⟨a, ea⟩ := exa_v h1
  obtain ⟨m, em⟩ := arr_v h3
  obtain ⟨c, A⟩ := Arr.start em h3
  have n := own_len A em h4
  have el := own_elem A em h5 (by decide)
  refine ⟨a, ?_, m, c.cls, 1, [.int r.toInt32], Exa.start ea h1, ?_, Fld.start ((fld_at ea).symm.trans em), ?_, Or.inr (Or.inl ⟨q3, q4, rfl, rfl⟩)⟩
  · have ha : s.arrayAt? wp = some cp := IntBox.arrayAt_of AP.1 AP.2.1 AP.2.2
    rw [elem_f ep (Term.int_eval j) ha q2] at ea
    rw [q1]; exact ea
  · rw [if_neg (fun q => absurd q3 (by rw [q]; decide))]
    exact Fld.start ((fld_at ea).symm.trans (own_eqint h2))
  · rw [q1]
    exact Arv.start hfit A (by rw [n]; decide) (by rw [n]; rfl) (by decide) rfl ⟨el, trivial⟩
set_option maxRecDepth 65536 in
set_option maxHeartbeats 40000000 in
theorem comes_1 {Post : Tables → Env → Array Value → State → Outcome → State → Prop} (hpost : ∀ tb e args s v u, (limb_1_1.after args s (.returned v) u = true ∧ limb_1_2.after args s (.returned v) u = true ∧ True) → FrameEnd s (.returned v) u (Jvm.fieldLocs frame_1_writes args s ++ Jvm.arrayLocs frame_1_arrays args s ++ Jvm.staticLocs frame_1_statics s) 48 256 → Post tb e args s (.returned v) u) :
    ArmFor flags0 classFile x code maxLocals ret World_1 tables_1 room_1 Calls_1 rest_1 Pre_1 Post := by
  intro l hfl _ _ p e ha hc hk s m args below hf hA hF happ hP
  obtain ⟨hcalls, hrest, hpre⟩ := hP
  obtain ⟨-, -, -, hnamed, -, -, -, hat⟩ := (Spec.applies_iff hf).mp happ
  obtain ⟨hg, hn⟩ := and_e (Cond.before_iff.mp (show (Jvm.Cond.and given_1 narrow_1).before args s = true from hpre))
  obtain ⟨g1, g2⟩ := and_e hg
  obtain ⟨g3, g4⟩ := and_e g2
  obtain ⟨g5, g6⟩ := and_e g4
  obtain ⟨g7, g8⟩ := and_e g6
  obtain ⟨w0, w1, w2, w3, rfl⟩ : ∃ w0 w1 w2 w3 : Value, args = #[w0, w1, w2, w3] := by
    have hs : args.size = 4 := by simpa [Cond.value, given_1] using g1
    obtain ⟨L⟩ := args
    match L, hs with
    | [w0, w1, w2, w3], _ => exact ⟨w0, w1, w2, w3, rfl⟩
  have hw := fun d (hd : d ∈ tables_1) => atoms_spec (ws := Jvm.Cond.code x code maxLocals ret :: tables_1) hat d (List.mem_cons_of_mem _ hd)
  have hfit : Fit s := fun {y c} hc i hi => by
    obtain ⟨ha, rfl⟩ := Array.getElem?_eq_some_iff.mp hc
    have q := List.all_eq_true.mp ((Array.all_eq_true_iff_forall_mem.mp hF) _ (Array.getElem_mem ha)) i (List.mem_range.mpr hi)
    simpa [Array.getElem?_eq_getElem hi] using q
  obtain ⟨hsets, hown0⟩ := atoms_of _ (rest_1_c_eq ▸ (show rest_1_c.before _ s = true from hrest))
  have hr0 := Cond.before_iff.mp hown0
  obtain ⟨i0, ei0⟩ := isL_v g3
  obtain rfl : w0 = (.long i0) := Option.some.inj ei0
  obtain ⟨i1, ei1⟩ := is_v g5
  obtain rfl : w1 = (.int i1) := Option.some.inj ei1
  obtain ⟨i2, ei2⟩ := is_v g7
  obtain rfl : w2 = (.int i2) := Option.some.inj ei2
  obtain ⟨i3, ei3⟩ := is_v g8
  obtain rfl : w3 = (.int i3) := Option.some.inj ei3
  obtain ⟨wz, vz⟩ := exa_v (Cond.before_iff.mp (hsets _ (List.mem_of_getElem? (i := 112) rfl)))
  have SZ : Sta s s.heap "java/math/BigInteger" "ZERO" "Ljava/math/BigInteger;" (.ref wz) := Sta.start vz (Or.inl (hsets _ (List.mem_of_getElem? (i := 111) rfl)))
  obtain ⟨wp, vp⟩ := arr_v (Cond.before_iff.mp (hsets _ (List.mem_of_getElem? (i := 8) rfl)))
  have SP : Sta s s.heap "java/math/BigInteger" "posConst" "[Ljava/math/BigInteger;" (.ref wp) := Sta.start vp (Or.inl (hsets _ (List.mem_of_getElem? (i := 1) rfl)))
  obtain ⟨cp, AP⟩ := Arr.start vp (Cond.before_iff.mp (hsets _ (List.mem_of_getElem? (i := 8) rfl)))
  have nP : cp.slots.size = 17 := own_len AP vp (Cond.before_iff.mp (hsets _ (List.mem_of_getElem? (i := 10) rfl)))
  have BZ : OwnBig s s.heap wz 0 := own_bigz hfit vz (Cond.before_iff.mp (hsets _ (List.mem_of_getElem? (i := 112) rfl))) (Cond.before_iff.mp (hsets _ (List.mem_of_getElem? (i := 113) rfl))) (Cond.before_iff.mp (hsets _ (List.mem_of_getElem? (i := 114) rfl))) (Cond.before_iff.mp (hsets _ (List.mem_of_getElem? (i := 116) rfl)))
  have HP : ∀ r : Int64, 0 < r → ¬ 16 < r → ∃ a, cp.slots[r.toInt32.toNatClampNeg]? = some (.ref a) ∧ OwnBig s s.heap a r := by
    intro r h1 h2
    rcases own_16 h1 h2 with rfl | rfl | rfl | rfl | rfl | rfl | rfl | rfl | rfl | rfl | rfl | rfl | rfl | rfl | rfl | rfl
    · exact own_bigp hfit AP vp (Cond.before_iff.mp (hsets _ (List.mem_of_getElem? (i := 12) rfl))) (Cond.before_iff.mp (hsets _ (List.mem_of_getElem? (i := 13) rfl))) (Cond.before_iff.mp (hsets _ (List.mem_of_getElem? (i := 14) rfl))) (Cond.before_iff.mp (hsets _ (List.mem_of_getElem? (i := 16) rfl))) (Cond.before_iff.mp (hsets _ (List.mem_of_getElem? (i := 17) rfl))) (by decide) (by decide) (by decide) (by decide)
    · exact own_bigp hfit AP vp (Cond.before_iff.mp (hsets _ (List.mem_of_getElem? (i := 19) rfl))) (Cond.before_iff.mp (hsets _ (List.mem_of_getElem? (i := 20) rfl))) (Cond.before_iff.mp (hsets _ (List.mem_of_getElem? (i := 21) rfl))) (Cond.before_iff.mp (hsets _ (List.mem_of_getElem? (i := 23) rfl))) (Cond.before_iff.mp (hsets _ (List.mem_of_getElem? (i := 24) rfl))) (by decide) (by decide) (by decide) (by decide)
    · exact own_bigp hfit AP vp (Cond.before_iff.mp (hsets _ (List.mem_of_getElem? (i := 25) rfl))) (Cond.before_iff.mp (hsets _ (List.mem_of_getElem? (i := 26) rfl))) (Cond.before_iff.mp (hsets _ (List.mem_of_getElem? (i := 27) rfl))) (Cond.before_iff.mp (hsets _ (List.mem_of_getElem? (i := 29) rfl))) (Cond.before_iff.mp (hsets _ (List.mem_of_getElem? (i := 30) rfl))) (by decide) (by decide) (by decide) (by decide)
    · exact own_bigp hfit AP vp (Cond.before_iff.mp (hsets _ (List.mem_of_getElem? (i := 31) rfl))) (Cond.before_iff.mp (hsets _ (List.mem_of_getElem? (i := 32) rfl))) (Cond.before_iff.mp (hsets _ (List.mem_of_getElem? (i := 33) rfl))) (Cond.before_iff.mp (hsets _ (List.mem_of_getElem? (i := 35) rfl))) (Cond.before_iff.mp (hsets _ (List.mem_of_getElem? (i := 36) rfl))) (by decide) (by decide) (by decide) (by decide)
    · exact own_bigp hfit AP vp (Cond.before_iff.mp (hsets _ (List.mem_of_getElem? (i := 37) rfl))) (Cond.before_iff.mp (hsets _ (List.mem_of_getElem? (i := 38) rfl))) (Cond.before_iff.mp (hsets _ (List.mem_of_getElem? (i := 39) rfl))) (Cond.before_iff.mp (hsets _ (List.mem_of_getElem? (i := 41) rfl))) (Cond.before_iff.mp (hsets _ (List.mem_of_getElem? (i := 42) rfl))) (by decide) (by decide) (by decide) (by decide)
    · exact own_bigp hfit AP vp (Cond.before_iff.mp (hsets _ (List.mem_of_getElem? (i := 43) rfl))) (Cond.before_iff.mp (hsets _ (List.mem_of_getElem? (i := 44) rfl))) (Cond.before_iff.mp (hsets _ (List.mem_of_getElem? (i := 45) rfl))) (Cond.before_iff.mp (hsets _ (List.mem_of_getElem? (i := 47) rfl))) (Cond.before_iff.mp (hsets _ (List.mem_of_getElem? (i := 48) rfl))) (by decide) (by decide) (by decide) (by decide)
    · exact own_bigp hfit AP vp (Cond.before_iff.mp (hsets _ (List.mem_of_getElem? (i := 49) rfl))) (Cond.before_iff.mp (hsets _ (List.mem_of_getElem? (i := 50) rfl))) (Cond.before_iff.mp (hsets _ (List.mem_of_getElem? (i := 51) rfl))) (Cond.before_iff.mp (hsets _ (List.mem_of_getElem? (i := 53) rfl))) (Cond.before_iff.mp (hsets _ (List.mem_of_getElem? (i := 54) rfl))) (by decide) (by decide) (by decide) (by decide)
    · exact own_bigp hfit AP vp (Cond.before_iff.mp (hsets _ (List.mem_of_getElem? (i := 55) rfl))) (Cond.before_iff.mp (hsets _ (List.mem_of_getElem? (i := 56) rfl))) (Cond.before_iff.mp (hsets _ (List.mem_of_getElem? (i := 57) rfl))) (Cond.before_iff.mp (hsets _ (List.mem_of_getElem? (i := 59) rfl))) (Cond.before_iff.mp (hsets _ (List.mem_of_getElem? (i := 60) rfl))) (by decide) (by decide) (by decide) (by decide)
    · exact own_bigp hfit AP vp (Cond.before_iff.mp (hsets _ (List.mem_of_getElem? (i := 61) rfl))) (Cond.before_iff.mp (hsets _ (List.mem_of_getElem? (i := 62) rfl))) (Cond.before_iff.mp (hsets _ (List.mem_of_getElem? (i := 63) rfl))) (Cond.before_iff.mp (hsets _ (List.mem_of_getElem? (i := 65) rfl))) (Cond.before_iff.mp (hsets _ (List.mem_of_getElem? (i := 66) rfl))) (by decide) (by decide) (by decide) (by decide)
    · exact own_bigp hfit AP vp (Cond.before_iff.mp (hsets _ (List.mem_of_getElem? (i := 68) rfl))) (Cond.before_iff.mp (hsets _ (List.mem_of_getElem? (i := 69) rfl))) (Cond.before_iff.mp (hsets _ (List.mem_of_getElem? (i := 70) rfl))) (Cond.before_iff.mp (hsets _ (List.mem_of_getElem? (i := 72) rfl))) (Cond.before_iff.mp (hsets _ (List.mem_of_getElem? (i := 73) rfl))) (by decide) (by decide) (by decide) (by decide)
    · exact own_bigp hfit AP vp (Cond.before_iff.mp (hsets _ (List.mem_of_getElem? (i := 74) rfl))) (Cond.before_iff.mp (hsets _ (List.mem_of_getElem? (i := 75) rfl))) (Cond.before_iff.mp (hsets _ (List.mem_of_getElem? (i := 76) rfl))) (Cond.before_iff.mp (hsets _ (List.mem_of_getElem? (i := 78) rfl))) (Cond.before_iff.mp (hsets _ (List.mem_of_getElem? (i := 79) rfl))) (by decide) (by decide) (by decide) (by decide)
    · exact own_bigp hfit AP vp (Cond.before_iff.mp (hsets _ (List.mem_of_getElem? (i := 80) rfl))) (Cond.before_iff.mp (hsets _ (List.mem_of_getElem? (i := 81) rfl))) (Cond.before_iff.mp (hsets _ (List.mem_of_getElem? (i := 82) rfl))) (Cond.before_iff.mp (hsets _ (List.mem_of_getElem? (i := 84) rfl))) (Cond.before_iff.mp (hsets _ (List.mem_of_getElem? (i := 85) rfl))) (by decide) (by decide) (by decide) (by decide)
    · exact own_bigp hfit AP vp (Cond.before_iff.mp (hsets _ (List.mem_of_getElem? (i := 86) rfl))) (Cond.before_iff.mp (hsets _ (List.mem_of_getElem? (i := 87) rfl))) (Cond.before_iff.mp (hsets _ (List.mem_of_getElem? (i := 88) rfl))) (Cond.before_iff.mp (hsets _ (List.mem_of_getElem? (i := 90) rfl))) (Cond.before_iff.mp (hsets _ (List.mem_of_getElem? (i := 91) rfl))) (by decide) (by decide) (by decide) (by decide)
    · exact own_bigp hfit AP vp (Cond.before_iff.mp (hsets _ (List.mem_of_getElem? (i := 92) rfl))) (Cond.before_iff.mp (hsets _ (List.mem_of_getElem? (i := 93) rfl))) (Cond.before_iff.mp (hsets _ (List.mem_of_getElem? (i := 94) rfl))) (Cond.before_iff.mp (hsets _ (List.mem_of_getElem? (i := 96) rfl))) (Cond.before_iff.mp (hsets _ (List.mem_of_getElem? (i := 97) rfl))) (by decide) (by decide) (by decide) (by decide)
    · exact own_bigp hfit AP vp (Cond.before_iff.mp (hsets _ (List.mem_of_getElem? (i := 98) rfl))) (Cond.before_iff.mp (hsets _ (List.mem_of_getElem? (i := 99) rfl))) (Cond.before_iff.mp (hsets _ (List.mem_of_getElem? (i := 100) rfl))) (Cond.before_iff.mp (hsets _ (List.mem_of_getElem? (i := 102) rfl))) (Cond.before_iff.mp (hsets _ (List.mem_of_getElem? (i := 103) rfl))) (by decide) (by decide) (by decide) (by decide)
    · exact own_bigp hfit AP vp (Cond.before_iff.mp (hsets _ (List.mem_of_getElem? (i := 104) rfl))) (Cond.before_iff.mp (hsets _ (List.mem_of_getElem? (i := 105) rfl))) (Cond.before_iff.mp (hsets _ (List.mem_of_getElem? (i := 106) rfl))) (Cond.before_iff.mp (hsets _ (List.mem_of_getElem? (i := 108) rfl))) (Cond.before_iff.mp (hsets _ (List.mem_of_getElem? (i := 109) rfl))) (by decide) (by decide) (by decide) (by decide)
  obtain ⟨n, o, h1, h2, h3, _, L, rfl, ⟨rfl, N⟩, hq⟩ := rm_law l s _ hw tables_1 i0 i1 i2 i3 wz wp cp s.heap s.heap.size (Nat.le_refl _) (Old.start s) SZ SP BZ AP nP HP p e ha hc hk s m _ below hf ((Spec.applies_iff_loose hf).mp happ).1 ⟨rfl, State.Warmed39.refl s, rfl⟩ trivial
  refine ⟨n, _, h1, h2, h3, hpost _ _ _ _ _ _ ⟨Cond.after_iff.mpr rfl, Cond.after_iff.mpr (eq_i res_at (Term.int_eval (1)) rfl), trivial⟩ ⟨hq.1, hq.2.1, (hq.2.2.sift fun y hy => Or.inr (N y hy)).mono (by decide) (by decide)⟩⟩
theorem main_1_1 : Claimed_1_1 := comes_1 fun _ _ _ _ _ _ h hF => ⟨h.1, hF⟩
theorem main_1_2 : Claimed_1_2 := comes_1 fun _ _ _ _ _ _ h hF => ⟨h.2.1, hF⟩
end Jvm.Pilot.@@N@@
namespace Jvm.Pilot.@@N@@
open Jvm Jvm.ClassFile Sem Op Lib Jvm.Free Jvm.Stand Jvm.Pilot.@@N@@.Jvm.D
/-! MADE BY PROGRAM (witnessworld.py) out of the Statement's table words and the real class files: 14 classes; the members and pool entries that the words name. The judged class is class 1, her method 1. -/
namespace start1
open Jvm.ClassFile
def u (s : String) : CpInfo := .utf8 (stringToUtf16 s)
/-- a pool by its gaps: so many unusable entries, then the entry; so many at the end -/
def gap : Nat → List CpInfo → List CpInfo
  | 0, r => r
  | n + 1, r => .unusable :: gap n r
def poolList (es : List (Nat × CpInfo)) (last : Nat) : List CpInfo := es.foldr (fun e r => gap e.1 (e.2 :: r)) (gap last [])
def pool (es : List (Nat × CpInfo)) (last : Nat) : Array CpInfo := ⟨poolList es last⟩
def fileOf (pool : Array CpInfo) (this : Nat) (attrs : Array Attribute := #[]) (ms : Array MethodInfo := #[]) (fl : Nat := 33) (sup : Nat := 0) (ifs : Array Nat := #[]) (fds : Array FieldInfo := #[]) : ClassFile where
  minorVersion := 0
  majorVersion := 65
  constantPool := pool
  accessFlags := fl
  thisClass := this
  superClass := sup
  interfaces := ifs
  fields := fds
  methods := ms
  attributes := attrs
def plain (name : String) (sup : Option ClassId) : Class where
  name := name
  kind := .ordinary
  loader := none
  accessFlags := 33
  super := sup
  interfaces := #[]
  cf := none
  fields := #[]
  methods := #[]
  instanceTypes := #[]
  staticTypes := #[]
  resolved := #[]
  callSites := []
  init := .initialized
  statics := none
  mirror := none

def pool0 : Array CpInfo := pool [(5, u "<init>"), (0, u "()V"), (1, .class_ 10), (1, u "java/lang/Object")] 113

def k0c0 : Code := { maxStack := 0, maxLocals := 1, code := object_method_1_code, exceptionTable := #[], attributes := #[] }
def k0m0 : Method := { name := "<init>", desc := "()V", sig := { parameters := [], returnType := none }, accessFlags := 1, code := some k0c0 }
/-- java/lang/Object -/
def k0 : Class := { plain "java/lang/Object" none with
  accessFlags := 33
  interfaces := #[]
  cf := some (fileOf pool0 8 #[] #[{ accessFlags := 1, nameIndex := 5, descriptorIndex := 6, attributes := #[] }] 33 0 #[] #[])
  fields := #[]
  methods := #[k0m0]
  instanceTypes := #[]
  staticTypes := #[]
  resolved := Array.replicate 124 none
  statics := none }

def pool1 : Array CpInfo := pool [(2, .class_ 4), (1, u "java/lang/Object"), (0, u "<init>"), (0, u "()V"), (0, .long 2147483647), (1, .long 3), (3, .long 9223372036854775807), (1, .methodref 16 17), (0, .class_ 18), (0, .nameAndType 19 20), (0, u "java/lang/Math"), (0, u "min"), (0, u "(JJ)J"), (0, .class_ 22), (0, u "com/example/quantpath/quantpath/count/Budget"), (0, .methodref 21 24), (0, .nameAndType 5 25), (0, u "(J)V"), (0, .methodref 21 27), (0, .nameAndType 28 29), (0, u "spend"), (0, u "(I)V"), (0, .methodref 31 32), (0, .class_ 33), (0, .nameAndType 34 35), (0, u "com/example/quantpath/quantpath/count/BudgetSpendPinLaw"), (0, u "exactly"), (0, u "(Lcom/example/quantpath/quantpath/count/Budget;J)Z"), (2, .methodref 39 40), (0, .class_ 41), (0, .nameAndType 42 43), (0, u "java/math/BigInteger"), (0, u "valueOf"), (0, u "(J)Ljava/math/BigInteger;"), (0, .methodref 21 45), (0, .nameAndType 46 47), (0, u "holds"), (0, u "(Ljava/math/BigInteger;)Z"), (2, u "law"), (0, u "(JIII)Z")] 3

def k1m0 : Method := { name := "<init>", desc := "()V", sig := { parameters := [], returnType := none }, accessFlags := 1, code := none }
def k1c1 : Code := { maxStack := 6, maxLocals := 14, code := code, exceptionTable := #[], attributes := #[] }
def k1m1 : Method := { name := "law", desc := "(JIII)Z", sig := { parameters := [.long, .int, .int, .int], returnType := some .boolean }, accessFlags := 9, code := some k1c1 }
def k1c2 : Code := { maxStack := 5, maxLocals := 3, code := method_3_code, exceptionTable := #[], attributes := #[] }
def k1m2 : Method := { name := "exactly", desc := "(Lcom/example/quantpath/quantpath/count/Budget;J)Z", sig := { parameters := [(.object "com/example/quantpath/quantpath/count/Budget"), .long], returnType := some .boolean }, accessFlags := 10, code := some k1c2 }
/-- com/example/quantpath/quantpath/count/BudgetSpendPinLaw -/
def k1 : Class := { plain "com/example/quantpath/quantpath/count/BudgetSpendPinLaw" (some 0) with
  accessFlags := 49
  interfaces := #[]
  cf := some (fileOf pool1 31 #[] #[{ accessFlags := 1, nameIndex := 5, descriptorIndex := 6, attributes := #[] }, { accessFlags := 9, nameIndex := 50, descriptorIndex := 51, attributes := #[] }, { accessFlags := 10, nameIndex := 34, descriptorIndex := 35, attributes := #[] }] 49 2 #[] #[])
  fields := #[]
  methods := #[k1m0, k1m1, k1m2]
  instanceTypes := #[]
  staticTypes := #[]
  resolved := Array.replicate 55 none
  statics := none }

def pool2 : Array CpInfo := pool [(1, .class_ 2), (0, u "java/lang/Math"), (1, .class_ 6), (1, u "java/lang/Object"), (0, u "<init>"), (0, u "()V"), (89, .class_ 100), (1, u "java/lang/Math$RandomNumberGeneratorHolder"), (20, u "(JJ)J"), (50, u "negativeZeroFloatBits"), (0, u "J"), (2, u "negativeZeroDoubleBits"), (24, u "min"), (43, u "$assertionsDisabled"), (0, u "Z"), (91, u "twoToTheDoubleScaleDown"), (0, u "D"), (4, u "twoToTheDoubleScaleUp"), (9, u "E"), (3, u "PI"), (2, u "TAU"), (2, u "DEGREES_TO_RADIANS"), (0, u "RADIANS_TO_DEGREES")] 94

def k2m0 : Method := { name := "<init>", desc := "()V", sig := { parameters := [], returnType := none }, accessFlags := 2, code := none }
def k2c1 : Code := { maxStack := 4, maxLocals := 4, code := jdk_29_method_70_code, exceptionTable := #[], attributes := #[] }
def k2m1 : Method := { name := "min", desc := "(JJ)J", sig := { parameters := [.long, .long], returnType := some .long }, accessFlags := 9, code := some k2c1 }
/-- java/lang/Math -/
def k2 : Class := { plain "java/lang/Math" (some 0) with
  accessFlags := 49
  interfaces := #[]
  cf := some (fileOf pool2 1 #[.nestMembers #[98]] #[{ accessFlags := 2, nameIndex := 7, descriptorIndex := 8, attributes := #[] }, { accessFlags := 9, nameIndex := 201, descriptorIndex := 121, attributes := #[] }] 49 4 #[] #[{ accessFlags := 25, nameIndex := 354, descriptorIndex := 339, attributes := #[] }, { accessFlags := 25, nameIndex := 358, descriptorIndex := 339, attributes := #[] }, { accessFlags := 25, nameIndex := 361, descriptorIndex := 339, attributes := #[] }, { accessFlags := 26, nameIndex := 364, descriptorIndex := 339, attributes := #[] }, { accessFlags := 26, nameIndex := 365, descriptorIndex := 339, attributes := #[] }, { accessFlags := 26, nameIndex := 172, descriptorIndex := 173, attributes := #[] }, { accessFlags := 26, nameIndex := 176, descriptorIndex := 173, attributes := #[] }, { accessFlags := 8, nameIndex := 344, descriptorIndex := 339, attributes := #[] }, { accessFlags := 8, nameIndex := 338, descriptorIndex := 339, attributes := #[] }, { accessFlags := 4120, nameIndex := 245, descriptorIndex := 246, attributes := #[] }])
  fields := #[{ name := "E", type := .double, accessFlags := 25, slot := 0, constantValue := 0 }, { name := "PI", type := .double, accessFlags := 25, slot := 1, constantValue := 0 }, { name := "TAU", type := .double, accessFlags := 25, slot := 2, constantValue := 0 }, { name := "DEGREES_TO_RADIANS", type := .double, accessFlags := 26, slot := 3, constantValue := 0 }, { name := "RADIANS_TO_DEGREES", type := .double, accessFlags := 26, slot := 4, constantValue := 0 }, { name := "negativeZeroFloatBits", type := .long, accessFlags := 26, slot := 5, constantValue := 0 }, { name := "negativeZeroDoubleBits", type := .long, accessFlags := 26, slot := 6, constantValue := 0 }, { name := "twoToTheDoubleScaleUp", type := .double, accessFlags := 8, slot := 7, constantValue := 0 }, { name := "twoToTheDoubleScaleDown", type := .double, accessFlags := 8, slot := 8, constantValue := 0 }, { name := "$assertionsDisabled", type := .boolean, accessFlags := 4120, slot := 9, constantValue := 0 }]
  methods := #[k2m0, k2m1]
  instanceTypes := #[]
  staticTypes := #[.double, .double, .double, .double, .double, .long, .long, .double, .double, .boolean]
  resolved := Array.replicate 460 none
  statics := none }

def pool3 : Array CpInfo := pool [(1, .methodref 2 3), (0, .class_ 4), (0, .nameAndType 5 6), (0, u "java/lang/Object"), (0, u "<init>"), (0, u "()V"), (9, .fieldref 17 18), (0, .class_ 19), (0, .nameAndType 20 21), (0, u "com/example/quantpath/quantpath/count/Budget"), (0, u "left"), (0, u "J"), (0, .methodref 23 24), (0, .class_ 25), (0, .nameAndType 26 27), (0, u "java/math/BigInteger"), (0, u "valueOf"), (0, u "(J)Ljava/math/BigInteger;"), (0, .methodref 23 29), (0, .nameAndType 30 31), (0, u "compareTo"), (0, u "(Ljava/math/BigInteger;)I"), (0, .class_ 33), (0, u "com/example/quantpath/quantpath/count/Budget$Exhausted"), (1, u "(J)V"), (3, u "holds"), (0, u "(Ljava/math/BigInteger;)Z"), (0, u "spend"), (0, u "(I)V")] 19

def k3c0 : Code := { maxStack := 4, maxLocals := 3, code := prog_6_method_1_code, exceptionTable := #[], attributes := #[] }
def k3m0 : Method := { name := "<init>", desc := "(J)V", sig := { parameters := [.long], returnType := none }, accessFlags := 1, code := some k3c0 }
def k3c1 : Code := { maxStack := 3, maxLocals := 2, code := prog_6_method_2_code, exceptionTable := #[], attributes := #[] }
def k3m1 : Method := { name := "holds", desc := "(Ljava/math/BigInteger;)Z", sig := { parameters := [(.object "java/math/BigInteger")], returnType := some .boolean }, accessFlags := 0, code := some k3c1 }
def k3c2 : Code := { maxStack := 5, maxLocals := 2, code := prog_6_method_3_code, exceptionTable := #[], attributes := #[] }
def k3m2 : Method := { name := "spend", desc := "(I)V", sig := { parameters := [.int], returnType := none }, accessFlags := 0, code := some k3c2 }
/-- com/example/quantpath/quantpath/count/Budget -/
def k3 : Class := { plain "com/example/quantpath/quantpath/count/Budget" (some 0) with
  accessFlags := 49
  interfaces := #[]
  cf := some (fileOf pool3 17 #[.nestMembers #[32]] #[{ accessFlags := 1, nameIndex := 5, descriptorIndex := 35, attributes := #[] }, { accessFlags := 0, nameIndex := 39, descriptorIndex := 40, attributes := #[] }, { accessFlags := 0, nameIndex := 41, descriptorIndex := 42, attributes := #[] }] 49 2 #[] #[{ accessFlags := 2, nameIndex := 20, descriptorIndex := 21, attributes := #[] }])
  fields := #[{ name := "left", type := .long, accessFlags := 2, slot := 0, constantValue := 0 }]
  methods := #[k3m0, k3m1, k3m2]
  instanceTypes := #[.long]
  staticTypes := #[]
  resolved := Array.replicate 62 none
  statics := none }

def pool4 : Array CpInfo := pool [(1, .class_ 2), (0, u "java/io/Serializable"), (0, .class_ 4), (0, u "java/lang/Object")] 2

/-- java/io/Serializable -/
def k4 : Class := { plain "java/io/Serializable" (some 0) with
  accessFlags := 1537
  interfaces := #[]
  cf := some (fileOf pool4 1 #[] #[] 1537 3 #[] #[])
  fields := #[]
  methods := #[]
  instanceTypes := #[]
  staticTypes := #[]
  resolved := Array.replicate 7 none
  statics := none }

def pool5 : Array CpInfo := pool [(1, .methodref 2 3), (0, .class_ 4), (0, .nameAndType 5 6), (0, u "java/lang/Object"), (0, u "<init>"), (0, u "()V"), (1, .class_ 10), (1, u "java/lang/Number"), (2, .class_ 14), (0, u "java/io/Serializable"), (0, u "serialVersionUID"), (0, u "J")] 20

def k5c0 : Code := { maxStack := 1, maxLocals := 1, code := jdk_18_method_1_code, exceptionTable := #[], attributes := #[] }
def k5m0 : Method := { name := "<init>", desc := "()V", sig := { parameters := [], returnType := none }, accessFlags := 1, code := some k5c0 }
/-- java/lang/Number -/
def k5 : Class := { plain "java/lang/Number" (some 0) with
  accessFlags := 1057
  interfaces := #[4]
  cf := some (fileOf pool5 8 #[] #[{ accessFlags := 1, nameIndex := 5, descriptorIndex := 6, attributes := #[] }] 1057 2 #[13] #[{ accessFlags := 26, nameIndex := 15, descriptorIndex := 16, attributes := #[] }])
  fields := #[{ name := "serialVersionUID", type := .long, accessFlags := 26, slot := 0, constantValue := 0 }]
  methods := #[k5m0]
  instanceTypes := #[]
  staticTypes := #[.long]
  resolved := Array.replicate 37 none
  statics := none }

def pool6 : Array CpInfo := pool [(1, .class_ 2), (0, u "java/lang/Comparable"), (0, .class_ 4), (0, u "java/lang/Object")] 7

/-- java/lang/Comparable -/
def k6 : Class := { plain "java/lang/Comparable" (some 0) with
  accessFlags := 1537
  interfaces := #[]
  cf := some (fileOf pool6 1 #[] #[] 1537 3 #[] #[])
  fields := #[]
  methods := #[]
  instanceTypes := #[]
  staticTypes := #[]
  resolved := Array.replicate 12 none
  statics := none }

def pool7 : Array CpInfo := pool [(3, .methodref 4 5), (0, .class_ 6), (0, .nameAndType 7 8), (0, u "java/lang/Number"), (0, u "<init>"), (0, u "()V"), (13, .fieldref 23 24), (0, .class_ 25), (0, .nameAndType 26 27), (0, u "java/math/BigInteger"), (0, u "ZERO"), (0, u "Ljava/math/BigInteger;"), (0, .fieldref 23 29), (0, .nameAndType 30 31), (0, u "mag"), (0, u "[I"), (0, .fieldref 23 33), (0, .nameAndType 34 35), (0, u "signum"), (0, u "I"), (59, u "bitsPerDigit"), (0, u "[J"), (9, u "digitsPerInt"), (12, u "intRadix"), (10, .long 4294967295), (49, u "SMALL_PRIME_PRODUCT"), (56, u "valueOf"), (0, u "(J)Ljava/math/BigInteger;"), (21, u "ONE"), (6, u "TWO"), (43, u "$assertionsDisabled"), (0, u "Z"), (24, u "compareTo"), (0, u "(Ljava/math/BigInteger;)I"), (6, .long 16), (1, .fieldref 23 348), (0, .nameAndType 349 350), (0, u "posConst"), (0, u "[Ljava/math/BigInteger;"), (4, u "negConst"), (0, .methodref 23 357), (0, .nameAndType 7 358), (0, u "(J)V"), (6, .methodref 23 366), (0, .nameAndType 367 338), (0, u "compareMagnitude"), (104, .class_ 474), (1, u "java/math/BigInteger$RecursiveOp"), (106, u "NEGATIVE_ONE"), (91, u "bnExpModThreshTable"), (72, u "lowestSetBitPlusTwo"), (2, u "bitLengthPlusOne"), (2, u "bitCountPlusOne"), (6, u "LOG_TWO"), (0, u "D"), (2, u "logCache"), (0, u "[D"), (13, u "NUM_ZEROS"), (2, u "ZEROS"), (0, u "Ljava/lang/String;"), (9, u "longRadix"), (5, u "digitsPerLong"), (22, u "powerCache"), (0, u "[[Ljava/math/BigInteger;"), (45, u "firstNonzeroIntNumPlusTwo"), (38, .class_ 909), (1, u "java/math/BigInteger$UnsafeHolder"), (141, u "TEN"), (106, u "serialPersistentFields"), (0, u "[Ljava/io/ObjectStreamField;"), (0, .class_ 1161), (0, u "java/lang/Comparable"), (0, u "LONG_MASK"), (0, u "J"), (1, u "MAX_MAG_LENGTH"), (0, u "PRIME_SEARCH_BIT_LENGTH_LIMIT"), (1, u "KARATSUBA_THRESHOLD"), (1, u "TOOM_COOK_THRESHOLD"), (1, u "KARATSUBA_SQUARE_THRESHOLD"), (1, u "TOOM_COOK_SQUARE_THRESHOLD"), (1, u "BURNIKEL_ZIEGLER_THRESHOLD"), (0, u "BURNIKEL_ZIEGLER_OFFSET"), (1, u "SCHOENHAGE_BASE_CONVERSION_THRESHOLD"), (1, u "MULTIPLY_SQUARE_THRESHOLD"), (0, u "MONTGOMERY_INTRINSIC_THRESHOLD"), (1, u "SMALL_PRIME_THRESHOLD"), (1, u "DEFAULT_PRIME_CERTAINTY"), (1, u "MAX_CONSTANT"), (3, u "serialVersionUID"), (338, .class_ 1532), (0, u "java/math/BigInteger$RecursiveOp$RecursiveSquare"), (0, .class_ 1534), (0, u "java/math/BigInteger$RecursiveOp$RecursiveMultiply")] 7

def k7c0 : Code := { maxStack := 4, maxLocals := 2, code := jdk_2097_method_29_code, exceptionTable := #[], attributes := #[] }
def k7m0 : Method := { name := "valueOf", desc := "(J)Ljava/math/BigInteger;", sig := { parameters := [.long], returnType := some (.object "java/math/BigInteger") }, accessFlags := 9, code := some k7c0 }
def k7c1 : Code := { maxStack := 4, maxLocals := 4, code := jdk_2097_method_30_code, exceptionTable := #[], attributes := #[] }
def k7m1 : Method := { name := "<init>", desc := "(J)V", sig := { parameters := [.long], returnType := none }, accessFlags := 2, code := some k7c1 }
def k7c2 : Code := { maxStack := 2, maxLocals := 2, code := jdk_2097_method_121_code, exceptionTable := #[], attributes := #[] }
def k7m2 : Method := { name := "compareTo", desc := "(Ljava/math/BigInteger;)I", sig := { parameters := [(.object "java/math/BigInteger")], returnType := some .int }, accessFlags := 1, code := some k7c2 }
def k7c3 : Code := { maxStack := 6, maxLocals := 9, code := jdk_2097_method_122_code, exceptionTable := #[], attributes := #[] }
def k7m3 : Method := { name := "compareMagnitude", desc := "(Ljava/math/BigInteger;)I", sig := { parameters := [(.object "java/math/BigInteger")], returnType := some .int }, accessFlags := 16, code := some k7c3 }
/-- java/math/BigInteger -/
def k7 : Class := { plain "java/math/BigInteger" (some 5) with
  accessFlags := 33
  interfaces := #[6]
  cf := some (fileOf pool7 23 #[.nestMembers #[907, 472, 1531, 1533]] #[{ accessFlags := 9, nameIndex := 237, descriptorIndex := 238, attributes := #[] }, { accessFlags := 2, nameIndex := 7, descriptorIndex := 358, attributes := #[] }, { accessFlags := 1, nameIndex := 337, descriptorIndex := 338, attributes := #[] }, { accessFlags := 16, nameIndex := 367, descriptorIndex := 338, attributes := #[] }] 33 4 #[1160] #[{ accessFlags := 16, nameIndex := 34, descriptorIndex := 35, attributes := #[] }, { accessFlags := 16, nameIndex := 30, descriptorIndex := 31, attributes := #[] }, { accessFlags := 2, nameIndex := 752, descriptorIndex := 35, attributes := #[] }, { accessFlags := 2, nameIndex := 749, descriptorIndex := 35, attributes := #[] }, { accessFlags := 2, nameIndex := 746, descriptorIndex := 35, attributes := #[] }, { accessFlags := 2, nameIndex := 868, descriptorIndex := 35, attributes := #[] }, { accessFlags := 24, nameIndex := 1162, descriptorIndex := 1163, attributes := #[] }, { accessFlags := 26, nameIndex := 1165, descriptorIndex := 35, attributes := #[] }, { accessFlags := 26, nameIndex := 1166, descriptorIndex := 35, attributes := #[] }, { accessFlags := 26, nameIndex := 1168, descriptorIndex := 35, attributes := #[] }, { accessFlags := 26, nameIndex := 1170, descriptorIndex := 35, attributes := #[] }, { accessFlags := 26, nameIndex := 1172, descriptorIndex := 35, attributes := #[] }, { accessFlags := 26, nameIndex := 1174, descriptorIndex := 35, attributes := #[] }, { accessFlags := 24, nameIndex := 1176, descriptorIndex := 35, attributes := #[] }, { accessFlags := 24, nameIndex := 1177, descriptorIndex := 35, attributes := #[] }, { accessFlags := 26, nameIndex := 1179, descriptorIndex := 35, attributes := #[] }, { accessFlags := 26, nameIndex := 1181, descriptorIndex := 35, attributes := #[] }, { accessFlags := 26, nameIndex := 1182, descriptorIndex := 35, attributes := #[] }, { accessFlags := 10, nameIndex := 95, descriptorIndex := 96, attributes := #[] }, { accessFlags := 26, nameIndex := 1184, descriptorIndex := 35, attributes := #[] }, { accessFlags := 26, nameIndex := 1186, descriptorIndex := 35, attributes := #[] }, { accessFlags := 26, nameIndex := 180, descriptorIndex := 27, attributes := #[] }, { accessFlags := 26, nameIndex := 1188, descriptorIndex := 35, attributes := #[] }, { accessFlags := 26, nameIndex := 349, descriptorIndex := 350, attributes := #[] }, { accessFlags := 26, nameIndex := 355, descriptorIndex := 350, attributes := #[] }, { accessFlags := 74, nameIndex := 821, descriptorIndex := 822, attributes := #[] }, { accessFlags := 26, nameIndex := 763, descriptorIndex := 764, attributes := #[] }, { accessFlags := 26, nameIndex := 759, descriptorIndex := 760, attributes := #[] }, { accessFlags := 25, nameIndex := 26, descriptorIndex := 27, attributes := #[] }, { accessFlags := 25, nameIndex := 260, descriptorIndex := 27, attributes := #[] }, { accessFlags := 25, nameIndex := 267, descriptorIndex := 27, attributes := #[] }, { accessFlags := 26, nameIndex := 581, descriptorIndex := 27, attributes := #[] }, { accessFlags := 25, nameIndex := 1051, descriptorIndex := 27, attributes := #[] }, { accessFlags := 8, nameIndex := 673, descriptorIndex := 31, attributes := #[] }, { accessFlags := 10, nameIndex := 778, descriptorIndex := 35, attributes := #[] }, { accessFlags := 26, nameIndex := 781, descriptorIndex := 782, attributes := #[] }, { accessFlags := 10, nameIndex := 798, descriptorIndex := 31, attributes := #[] }, { accessFlags := 10, nameIndex := 792, descriptorIndex := 350, attributes := #[] }, { accessFlags := 10, nameIndex := 106, descriptorIndex := 31, attributes := #[] }, { accessFlags := 10, nameIndex := 119, descriptorIndex := 31, attributes := #[] }, { accessFlags := 26, nameIndex := 1192, descriptorIndex := 1163, attributes := #[] }, { accessFlags := 26, nameIndex := 1158, descriptorIndex := 1159, attributes := #[] }, { accessFlags := 4120, nameIndex := 311, descriptorIndex := 312, attributes := #[] }])
  fields := #[{ name := "signum", type := .int, accessFlags := 16, slot := 0, constantValue := 0 }, { name := "mag", type := (.array .int), accessFlags := 16, slot := 1, constantValue := 0 }, { name := "bitCountPlusOne", type := .int, accessFlags := 2, slot := 2, constantValue := 0 }, { name := "bitLengthPlusOne", type := .int, accessFlags := 2, slot := 3, constantValue := 0 }, { name := "lowestSetBitPlusTwo", type := .int, accessFlags := 2, slot := 4, constantValue := 0 }, { name := "firstNonzeroIntNumPlusTwo", type := .int, accessFlags := 2, slot := 5, constantValue := 0 }, { name := "LONG_MASK", type := .long, accessFlags := 24, slot := 0, constantValue := 0 }, { name := "MAX_MAG_LENGTH", type := .int, accessFlags := 26, slot := 1, constantValue := 0 }, { name := "PRIME_SEARCH_BIT_LENGTH_LIMIT", type := .int, accessFlags := 26, slot := 2, constantValue := 0 }, { name := "KARATSUBA_THRESHOLD", type := .int, accessFlags := 26, slot := 3, constantValue := 0 }, { name := "TOOM_COOK_THRESHOLD", type := .int, accessFlags := 26, slot := 4, constantValue := 0 }, { name := "KARATSUBA_SQUARE_THRESHOLD", type := .int, accessFlags := 26, slot := 5, constantValue := 0 }, { name := "TOOM_COOK_SQUARE_THRESHOLD", type := .int, accessFlags := 26, slot := 6, constantValue := 0 }, { name := "BURNIKEL_ZIEGLER_THRESHOLD", type := .int, accessFlags := 24, slot := 7, constantValue := 0 }, { name := "BURNIKEL_ZIEGLER_OFFSET", type := .int, accessFlags := 24, slot := 8, constantValue := 0 }, { name := "SCHOENHAGE_BASE_CONVERSION_THRESHOLD", type := .int, accessFlags := 26, slot := 9, constantValue := 0 }, { name := "MULTIPLY_SQUARE_THRESHOLD", type := .int, accessFlags := 26, slot := 10, constantValue := 0 }, { name := "MONTGOMERY_INTRINSIC_THRESHOLD", type := .int, accessFlags := 26, slot := 11, constantValue := 0 }, { name := "bitsPerDigit", type := (.array .long), accessFlags := 10, slot := 12, constantValue := 0 }, { name := "SMALL_PRIME_THRESHOLD", type := .int, accessFlags := 26, slot := 13, constantValue := 0 }, { name := "DEFAULT_PRIME_CERTAINTY", type := .int, accessFlags := 26, slot := 14, constantValue := 0 }, { name := "SMALL_PRIME_PRODUCT", type := (.object "java/math/BigInteger"), accessFlags := 26, slot := 15, constantValue := 0 }, { name := "MAX_CONSTANT", type := .int, accessFlags := 26, slot := 16, constantValue := 0 }, { name := "posConst", type := (.array (.object "java/math/BigInteger")), accessFlags := 26, slot := 17, constantValue := 0 }, { name := "negConst", type := (.array (.object "java/math/BigInteger")), accessFlags := 26, slot := 18, constantValue := 0 }, { name := "powerCache", type := (.array (.array (.object "java/math/BigInteger"))), accessFlags := 74, slot := 19, constantValue := 0 }, { name := "logCache", type := (.array .double), accessFlags := 26, slot := 20, constantValue := 0 }, { name := "LOG_TWO", type := .double, accessFlags := 26, slot := 21, constantValue := 0 }, { name := "ZERO", type := (.object "java/math/BigInteger"), accessFlags := 25, slot := 22, constantValue := 0 }, { name := "ONE", type := (.object "java/math/BigInteger"), accessFlags := 25, slot := 23, constantValue := 0 }, { name := "TWO", type := (.object "java/math/BigInteger"), accessFlags := 25, slot := 24, constantValue := 0 }, { name := "NEGATIVE_ONE", type := (.object "java/math/BigInteger"), accessFlags := 26, slot := 25, constantValue := 0 }, { name := "TEN", type := (.object "java/math/BigInteger"), accessFlags := 25, slot := 26, constantValue := 0 }, { name := "bnExpModThreshTable", type := (.array .int), accessFlags := 8, slot := 27, constantValue := 0 }, { name := "NUM_ZEROS", type := .int, accessFlags := 10, slot := 28, constantValue := 0 }, { name := "ZEROS", type := (.object "java/lang/String"), accessFlags := 26, slot := 29, constantValue := 0 }, { name := "digitsPerLong", type := (.array .int), accessFlags := 10, slot := 30, constantValue := 0 }, { name := "longRadix", type := (.array (.object "java/math/BigInteger")), accessFlags := 10, slot := 31, constantValue := 0 }, { name := "digitsPerInt", type := (.array .int), accessFlags := 10, slot := 32, constantValue := 0 }, { name := "intRadix", type := (.array .int), accessFlags := 10, slot := 33, constantValue := 0 }, { name := "serialVersionUID", type := .long, accessFlags := 26, slot := 34, constantValue := 0 }, { name := "serialPersistentFields", type := (.array (.object "java/io/ObjectStreamField")), accessFlags := 26, slot := 35, constantValue := 0 }, { name := "$assertionsDisabled", type := .boolean, accessFlags := 4120, slot := 36, constantValue := 0 }]
  methods := #[k7m0, k7m1, k7m2, k7m3]
  instanceTypes := #[.int, (.array .int), .int, .int, .int, .int]
  staticTypes := #[.long, .int, .int, .int, .int, .int, .int, .int, .int, .int, .int, .int, (.array .long), .int, .int, (.object "java/math/BigInteger"), .int, (.array (.object "java/math/BigInteger")), (.array (.object "java/math/BigInteger")), (.array (.array (.object "java/math/BigInteger"))), (.array .double), .double, (.object "java/math/BigInteger"), (.object "java/math/BigInteger"), (.object "java/math/BigInteger"), (.object "java/math/BigInteger"), (.object "java/math/BigInteger"), (.array .int), .int, (.object "java/lang/String"), (.array .int), (.array (.object "java/math/BigInteger")), (.array .int), (.array .int), .long, (.array (.object "java/io/ObjectStreamField")), .boolean]
  resolved := Array.replicate 1542 none
  statics := some 0 }

def pool8 : Array CpInfo := pool [(1, u "java/lang/Cloneable"), (0, .class_ 1), (0, u "java/lang/Object"), (0, .class_ 3)] 3

/-- java/lang/Cloneable -/
def k8 : Class := { plain "java/lang/Cloneable" (some 0) with
  accessFlags := 1537
  interfaces := #[]
  cf := some (fileOf pool8 2 #[] #[] 1537 4 #[] #[])
  fields := #[]
  methods := #[]
  instanceTypes := #[]
  staticTypes := #[]
  resolved := Array.replicate 8 none
  statics := none }

/-- the primitive byte -/
def k9 : Class := { plain "byte" none with kind := .primitive 'B', accessFlags := 0x411 }
/-- [B -/
def k10 : Class := { plain "[B" (some 0) with kind := .array 9 .byte, interfaces := #[8, 4], accessFlags := 1041 }

/-- the primitive int -/
def k11 : Class := { plain "int" none with kind := .primitive 'I', accessFlags := 0x411 }
/-- [I -/
def k12 : Class := { plain "[I" (some 0) with kind := .array 11 .int, interfaces := #[8, 4], accessFlags := 1041 }

/-- [Ljava/math/BigInteger; -/
def k13 : Class := { plain "[Ljava/math/BigInteger;" (some 0) with kind := .array 7 (.object "java/math/BigInteger"), interfaces := #[8, 4], accessFlags := 1041 }

def heap : Heap := #[{ cls := 7, slots := #[.long 0, .int 0, .int 0, .int 0, .int 0, .int 0, .int 0, .int 0, .int 0, .int 0, .int 0, .int 0, .null, .int 0, .int 0, .null, .int 0, .ref 1, .null, .null, .null, .double 0, .ref 34, .ref 2, .ref 4, .null, .ref 20, .null, .int 0, .null, .null, .null, .null, .null, .long 0, .null, .int 0], vm := .statics 7 },
  { cls := 13, slots := #[.null, .ref 2, .ref 4, .ref 6, .ref 8, .ref 10, .ref 12, .ref 14, .ref 16, .ref 18, .ref 20, .ref 22, .ref 24, .ref 26, .ref 28, .ref 30, .ref 32], vm := .none },
  { cls := 7, slots := #[.int 1, .ref 3, .int 0, .int 0, .int 0, .int 0], vm := .none },
  { cls := 12, slots := #[.int 1], vm := .none },
  { cls := 7, slots := #[.int 1, .ref 5, .int 0, .int 0, .int 0, .int 0], vm := .none },
  { cls := 12, slots := #[.int 2], vm := .none },
  { cls := 7, slots := #[.int 1, .ref 7, .int 0, .int 0, .int 0, .int 0], vm := .none },
  { cls := 12, slots := #[.int 3], vm := .none },
  { cls := 7, slots := #[.int 1, .ref 9, .int 0, .int 0, .int 0, .int 0], vm := .none },
  { cls := 12, slots := #[.int 4], vm := .none },
  { cls := 7, slots := #[.int 1, .ref 11, .int 0, .int 0, .int 0, .int 0], vm := .none },
  { cls := 12, slots := #[.int 5], vm := .none },
  { cls := 7, slots := #[.int 1, .ref 13, .int 0, .int 0, .int 0, .int 0], vm := .none },
  { cls := 12, slots := #[.int 6], vm := .none },
  { cls := 7, slots := #[.int 1, .ref 15, .int 0, .int 0, .int 0, .int 0], vm := .none },
  { cls := 12, slots := #[.int 7], vm := .none },
  { cls := 7, slots := #[.int 1, .ref 17, .int 0, .int 0, .int 0, .int 0], vm := .none },
  { cls := 12, slots := #[.int 8], vm := .none },
  { cls := 7, slots := #[.int 1, .ref 19, .int 0, .int 0, .int 0, .int 0], vm := .none },
  { cls := 12, slots := #[.int 9], vm := .none },
  { cls := 7, slots := #[.int 1, .ref 21, .int 0, .int 0, .int 0, .int 0], vm := .none },
  { cls := 12, slots := #[.int 10], vm := .none },
  { cls := 7, slots := #[.int 1, .ref 23, .int 0, .int 0, .int 0, .int 0], vm := .none },
  { cls := 12, slots := #[.int 11], vm := .none },
  { cls := 7, slots := #[.int 1, .ref 25, .int 0, .int 0, .int 0, .int 0], vm := .none },
  { cls := 12, slots := #[.int 12], vm := .none },
  { cls := 7, slots := #[.int 1, .ref 27, .int 0, .int 0, .int 0, .int 0], vm := .none },
  { cls := 12, slots := #[.int 13], vm := .none },
  { cls := 7, slots := #[.int 1, .ref 29, .int 0, .int 0, .int 0, .int 0], vm := .none },
  { cls := 12, slots := #[.int 14], vm := .none },
  { cls := 7, slots := #[.int 1, .ref 31, .int 0, .int 0, .int 0, .int 0], vm := .none },
  { cls := 12, slots := #[.int 15], vm := .none },
  { cls := 7, slots := #[.int 1, .ref 33, .int 0, .int 0, .int 0, .int 0], vm := .none },
  { cls := 12, slots := #[.int 16], vm := .none },
  { cls := 7, slots := #[.int 0, .ref 35, .int 0, .int 0, .int 0, .int 0], vm := .none },
  { cls := 12, slots := #[], vm := .none }]
def classes : Array Class := #[k0, k1, k2, k3, k4, k5, k6, k7, k8, k9, k10, k11, k12, k13]
def interned : List (Array UInt16 × Addr) := []
def slotsUsed : Nat := 172
def theMethod : MethodId := ⟨1, 1⟩
def args0 : Array Value := #[.long 5, .int 5, .int 5, .int 5]
def aboutOver (below : List Frame) : State where
  vm := { classes := classes, interned := interned.toArray }
  heap := heap
  slotsUsed := slotsUsed
  threads := #[{ frames := .invoking theMethod args0 :: below }]
def below0 : List Frame := [.native { method := ⟨0, 0⟩, args := #[] }]
def about1 : State := aboutOver below0
def p0 : Program := .bare "" "" ""
def e0 : Env := launch0.env 0 0 0
theorem w_frames : about1.frames = Frame.invoking theMethod args0 :: below0 := rfl
set_option maxRecDepth 65536 in
theorem w_args : argsFit about1.vm theMethod args0 = true := by decide +kernel
set_option maxRecDepth 65536 in
theorem w_heap : heapFits about1 = true := by decide +kernel
set_option maxRecDepth 65536 in
theorem w_runnable : about1.curStatus? = some .runnable := by decide +kernel
set_option maxRecDepth 65536 in
theorem w_alone : about1.alone = true := by decide +kernel
set_option maxRecDepth 65536 in
theorem w_named : about1.methodNamed? x = some theMethod := by decide +kernel
set_option maxRecDepth 65536 in
theorem w_hears : about1.hears theMethod below0 = true := by decide +kernel
set_option maxRecDepth 65536 in
theorem w_ripe : about1.ripe theMethod args0 below0 = true := by decide +kernel
theorem w_running : about1.status = .running := rfl
set_option maxRecDepth 65536 in
theorem w_room : about1.hasRoom e0.platform room_1 = true :=
  launch0.hasRoom_least _ room_1 (by decide +kernel) (by decide +kernel) (by decide +kernel) (by decide +kernel) (by decide +kernel) (by decide +kernel)
theorem allAtoms_all (ts : List Jvm.Cond) (a : Array Jvm.Value) (st : Jvm.State) : (allAtoms ts).before a st = ts.all (fun c => c.before a st) := by
  induction ts with
  | nil => rfl
  | cons c t ih =>
    show (Jvm.Cond.and c (allAtoms t)).before a st = _
    rw [Jvm.Cond.before_and, ih, List.all_cons]
def words1 : List Jvm.Cond := Jvm.Cond.code x code maxLocals ret :: tables_1
/-- a 'code' word, met by the world's own term for the bytes: nothing is compared byte by byte -/
theorem code_word {y : MethodName} {bytes : ByteArray} {mx : Nat} {rt : Option FieldType} {a : Array Value} {s : State} {m : MethodId} {meth : Method} {c : Code} (h1 : s.methodNamed? y = some m) (h2 : s.vm.method? m = some meth) (h3 : meth.code = some c) (h4 : c.code = bytes)
    (h5 : (c.maxLocals == mx && c.exceptionTable.isEmpty && decide (c.maxStack ≤ mostOperands) && decide (meth.sig.returnType = rt) && !meth.locks && decide (parseMethodDescriptor y.desc = some meth.sig)) = true) : (Jvm.Cond.code y bytes mx rt).before a s = true := by
  simp only [Bool.and_eq_true, beq_iff_eq, Bool.not_eq_true', decide_eq_true_eq] at h5
  obtain ⟨⟨⟨⟨⟨g1, g2⟩, g3⟩, g4⟩, g5⟩, g6⟩ := h5
  simp [Cond.before, Cond.holds, Cond.value, h1, h2, h3, h4, g1, g2, g3, g4, g5, g6]
def isCode : Jvm.Cond → Bool
  | .code _ _ _ _ => true
  | _ => false
theorem all_split {L : List Jvm.Cond} {P : Jvm.Cond → Bool} (h1 : L.all (fun c => isCode c || P c) = true) (h2 : ∀ c ∈ L.filter isCode, P c = true) : L.all P = true := by
  refine List.all_eq_true.mpr fun c hc => ?_
  have h := List.all_eq_true.mp h1 c hc
  rcases Bool.eq_false_or_eq_true (isCode c) with hi | hi
  · exact h2 c (List.mem_filter.mpr ⟨hc, hi⟩)
  · simpa [hi] using h
set_option maxRecDepth 65536 in
theorem w_c0 : (Jvm.Cond.code x code maxLocals ret).before args0 about1 = true := code_word (m := ⟨1, 1⟩) (meth := k1m1) (c := k1c1) (by decide +kernel) rfl rfl rfl (by decide +kernel)
set_option maxRecDepth 65536 in
theorem w_c1 : (Jvm.Cond.code ({ cls := "java/lang/Math", name := "min", desc := "(JJ)J" } : Jvm.MethodName) jdk_29_method_70_code (4 : Nat) (Option.some Jvm.ClassFile.FieldType.long)).before args0 about1 = true := code_word (m := ⟨2, 1⟩) (meth := k2m1) (c := k2c1) (by decide +kernel) rfl rfl rfl (by decide +kernel)
set_option maxRecDepth 65536 in
theorem w_c2 : (Jvm.Cond.code ({ cls := "com/example/quantpath/quantpath/count/Budget", name := "<init>", desc := "(J)V" } : Jvm.MethodName) prog_6_method_1_code (3 : Nat) (Option.none : Option Jvm.ClassFile.FieldType)).before args0 about1 = true := code_word (m := ⟨3, 0⟩) (meth := k3m0) (c := k3c0) (by decide +kernel) rfl rfl rfl (by decide +kernel)
set_option maxRecDepth 65536 in
theorem w_c3 : (Jvm.Cond.code ({ cls := "java/lang/Object", name := "<init>", desc := "()V" } : Jvm.MethodName) object_method_1_code (1 : Nat) (Option.none : Option Jvm.ClassFile.FieldType)).before args0 about1 = true := code_word (m := ⟨0, 0⟩) (meth := k0m0) (c := k0c0) (by decide +kernel) rfl rfl rfl (by decide +kernel)
set_option maxRecDepth 65536 in
theorem w_c4 : (Jvm.Cond.code ({ cls := "com/example/quantpath/quantpath/count/Budget", name := "spend", desc := "(I)V" } : Jvm.MethodName) prog_6_method_3_code (2 : Nat) (Option.none : Option Jvm.ClassFile.FieldType)).before args0 about1 = true := code_word (m := ⟨3, 2⟩) (meth := k3m2) (c := k3c2) (by decide +kernel) rfl rfl rfl (by decide +kernel)
set_option maxRecDepth 65536 in
theorem w_c5 : (Jvm.Cond.code ({ cls := "com/example/quantpath/quantpath/count/BudgetSpendPinLaw", name := "exactly", desc := "(Lcom/example/quantpath/quantpath/count/Budget;J)Z" } : Jvm.MethodName) method_3_code (3 : Nat) (Option.some Jvm.ClassFile.FieldType.boolean)).before args0 about1 = true := code_word (m := ⟨1, 2⟩) (meth := k1m2) (c := k1c2) (by decide +kernel) rfl rfl rfl (by decide +kernel)
set_option maxRecDepth 65536 in
theorem w_c6 : (Jvm.Cond.code ({ cls := "java/math/BigInteger", name := "valueOf", desc := "(J)Ljava/math/BigInteger;" } : Jvm.MethodName) jdk_2097_method_29_code (2 : Nat) (Option.some (Jvm.ClassFile.FieldType.object "java/math/BigInteger"))).before args0 about1 = true := code_word (m := ⟨7, 0⟩) (meth := k7m0) (c := k7c0) (by decide +kernel) rfl rfl rfl (by decide +kernel)
set_option maxRecDepth 65536 in
theorem w_c7 : (Jvm.Cond.code ({ cls := "com/example/quantpath/quantpath/count/Budget", name := "holds", desc := "(Ljava/math/BigInteger;)Z" } : Jvm.MethodName) prog_6_method_2_code (2 : Nat) (Option.some Jvm.ClassFile.FieldType.boolean)).before args0 about1 = true := code_word (m := ⟨3, 1⟩) (meth := k3m1) (c := k3c1) (by decide +kernel) rfl rfl rfl (by decide +kernel)
set_option maxRecDepth 65536 in
theorem w_c8 : (Jvm.Cond.code ({ cls := "java/math/BigInteger", name := "compareTo", desc := "(Ljava/math/BigInteger;)I" } : Jvm.MethodName) jdk_2097_method_121_code (2 : Nat) (Option.some Jvm.ClassFile.FieldType.int)).before args0 about1 = true := code_word (m := ⟨7, 2⟩) (meth := k7m2) (c := k7c2) (by decide +kernel) rfl rfl rfl (by decide +kernel)
set_option maxRecDepth 65536 in
theorem w_c9 : (Jvm.Cond.code ({ cls := "java/math/BigInteger", name := "compareMagnitude", desc := "(Ljava/math/BigInteger;)I" } : Jvm.MethodName) jdk_2097_method_122_code (9 : Nat) (Option.some Jvm.ClassFile.FieldType.int)).before args0 about1 = true := code_word (m := ⟨7, 3⟩) (meth := k7m3) (c := k7c3) (by decide +kernel) rfl rfl rfl (by decide +kernel)
set_option maxRecDepth 65536 in
theorem w_c10 : (Jvm.Cond.code ({ cls := "java/math/BigInteger", name := "<init>", desc := "(J)V" } : Jvm.MethodName) jdk_2097_method_30_code (4 : Nat) (Option.none : Option Jvm.ClassFile.FieldType)).before args0 about1 = true := code_word (m := ⟨7, 1⟩) (meth := k7m1) (c := k7c1) (by decide +kernel) rfl rfl rfl (by decide +kernel)
set_option maxRecDepth 65536 in
theorem w_c11 : (Jvm.Cond.code ({ cls := "java/lang/Number", name := "<init>", desc := "()V" } : Jvm.MethodName) jdk_18_method_1_code (1 : Nat) (Option.none : Option Jvm.ClassFile.FieldType)).before args0 about1 = true := code_word (m := ⟨5, 0⟩) (meth := k5m0) (c := k5c0) (by decide +kernel) rfl rfl rfl (by decide +kernel)
def codes1 : List Jvm.Cond := [Jvm.Cond.code x code maxLocals ret, Jvm.Cond.code ({ cls := "java/lang/Math", name := "min", desc := "(JJ)J" } : Jvm.MethodName) jdk_29_method_70_code (4 : Nat) (Option.some Jvm.ClassFile.FieldType.long), Jvm.Cond.code ({ cls := "com/example/quantpath/quantpath/count/Budget", name := "<init>", desc := "(J)V" } : Jvm.MethodName) prog_6_method_1_code (3 : Nat) (Option.none : Option Jvm.ClassFile.FieldType), Jvm.Cond.code ({ cls := "java/lang/Object", name := "<init>", desc := "()V" } : Jvm.MethodName) object_method_1_code (1 : Nat) (Option.none : Option Jvm.ClassFile.FieldType), Jvm.Cond.code ({ cls := "com/example/quantpath/quantpath/count/Budget", name := "spend", desc := "(I)V" } : Jvm.MethodName) prog_6_method_3_code (2 : Nat) (Option.none : Option Jvm.ClassFile.FieldType), Jvm.Cond.code ({ cls := "com/example/quantpath/quantpath/count/BudgetSpendPinLaw", name := "exactly", desc := "(Lcom/example/quantpath/quantpath/count/Budget;J)Z" } : Jvm.MethodName) method_3_code (3 : Nat) (Option.some Jvm.ClassFile.FieldType.boolean), Jvm.Cond.code ({ cls := "java/math/BigInteger", name := "valueOf", desc := "(J)Ljava/math/BigInteger;" } : Jvm.MethodName) jdk_2097_method_29_code (2 : Nat) (Option.some (Jvm.ClassFile.FieldType.object "java/math/BigInteger")), Jvm.Cond.code ({ cls := "com/example/quantpath/quantpath/count/Budget", name := "holds", desc := "(Ljava/math/BigInteger;)Z" } : Jvm.MethodName) prog_6_method_2_code (2 : Nat) (Option.some Jvm.ClassFile.FieldType.boolean), Jvm.Cond.code ({ cls := "java/math/BigInteger", name := "compareTo", desc := "(Ljava/math/BigInteger;)I" } : Jvm.MethodName) jdk_2097_method_121_code (2 : Nat) (Option.some Jvm.ClassFile.FieldType.int), Jvm.Cond.code ({ cls := "java/math/BigInteger", name := "compareMagnitude", desc := "(Ljava/math/BigInteger;)I" } : Jvm.MethodName) jdk_2097_method_122_code (9 : Nat) (Option.some Jvm.ClassFile.FieldType.int), Jvm.Cond.code ({ cls := "java/math/BigInteger", name := "<init>", desc := "(J)V" } : Jvm.MethodName) jdk_2097_method_30_code (4 : Nat) (Option.none : Option Jvm.ClassFile.FieldType), Jvm.Cond.code ({ cls := "java/lang/Number", name := "<init>", desc := "()V" } : Jvm.MethodName) jdk_18_method_1_code (1 : Nat) (Option.none : Option Jvm.ClassFile.FieldType)]
set_option maxRecDepth 65536 in
theorem codes_eq : words1.filter isCode = codes1 := rfl
theorem w_codes : ∀ c ∈ words1.filter isCode, c.before args0 about1 = true := by
  rw [codes_eq]
  intro c hc
  simp only [codes1, List.mem_cons, List.not_mem_nil, or_false] at hc
  rcases hc with rfl | rfl | rfl | rfl | rfl | rfl | rfl | rfl | rfl | rfl | rfl | rfl
  · exact w_c0
  · exact w_c1
  · exact w_c2
  · exact w_c3
  · exact w_c4
  · exact w_c5
  · exact w_c6
  · exact w_c7
  · exact w_c8
  · exact w_c9
  · exact w_c10
  · exact w_c11
set_option maxRecDepth 65536 in
theorem w_t1 : (words1.take 24).all (fun c => isCode c || c.before args0 about1) = true := by decide +kernel
set_option maxRecDepth 65536 in
theorem w_t2 : ((words1.drop 24).take 24).all (fun c => isCode c || c.before args0 about1) = true := by decide +kernel
set_option maxRecDepth 65536 in
theorem w_t3 : ((words1.drop 24).drop 24).all (fun c => isCode c || c.before args0 about1) = true := by decide +kernel
theorem w_tables : (allAtoms (Jvm.Cond.code x code maxLocals ret :: tables_1)).before args0 about1 = true := by
  rw [allAtoms_all]
  show words1.all (fun c => c.before args0 about1) = true
  refine all_split ?_ w_codes
  rw [← List.take_append_drop 24 words1, List.all_append, w_t1, ← List.take_append_drop 24 (words1.drop 24), List.all_append, w_t2, w_t3]
  rfl
set_option maxRecDepth 65536 in
theorem w_rest : rest_1_c.before args0 about1 = true := by decide +kernel
set_option maxRecDepth 65536 in
theorem w_case : (Jvm.Cond.and given_1 narrow_1).before args0 about1 = true := by decide +kernel
theorem w_applies : (headSpec (Jvm.Cond.code x code maxLocals ret :: tables_1) room_1).applies x e0.platform about1 = true :=
  (Spec.applies_iff w_frames).mpr ⟨w_running, w_runnable, w_alone, w_named, w_hears, w_ripe, w_room, w_tables⟩
theorem atStart : AtStart classFile x code maxLocals ret World_1 tables_1 room_1 Calls_1 rest_1 Pre_1 launch0 p0 e0 about1 theMethod args0 below0 :=
  ⟨lists_1, trivial, launch0.admits_env _ _ _, launch0.least_env, fairChoices_fair.cas, fairChoices_fair.clock, w_frames, w_args, w_heap, w_applies, trivial, w_rest, w_case⟩
end start1
theorem witness_1 : WitnessClaimed_1 := ⟨start1.p0, start1.e0, start1.about1, start1.theMethod, start1.args0, start1.below0, start1.atStart⟩
end Jvm.Pilot.@@N@@
