import JvmDerived
import JvmDerived.Pilot.@@N@@Statement
import JvmDerived.Pilot.@@N@@Code
set_option linter.unusedVariables false
set_option linter.unusedSimpArgs false
/- laws to paste: Road.backV (cut by pick.py; bodies as the Statement names them) -/
namespace Jvm.Pilot.@@N@@
namespace StrChars
open Jvm Sem ClassFile Op Lib Jvm.Stand Jvm.Free.XT Jvm.Free.ALB Jvm.Free.JM Jvm.Free
open Jvm.Lib.Cold (StaticIs)
/-- a char array whose places are chars -/
def Ch (a : Addr) (A : Cell) (U : State) : Prop := Arr .char a A U ∧ Typed .char A
theorem Ch.mv {a : Addr} {A : Cell} {U U' : State} (h : Ch a A U) (hal : U.vm.Alike U'.vm) (hh : U'.heap = U.heap) : Ch a A U' := ⟨h.1.mv hal hh, h.2⟩
theorem Ch.keep {a : Addr} {A : Cell} {U U' : State} (h : Ch a A U) (hal : U.vm.Alike U'.vm) (hk : U'.heap[a]? = some A) : Ch a A U' := ⟨h.1.keep hal hk, h.2⟩
/-- what place i of a char[]'s cell holds -/
def cv (A : Cell) (i : Nat) : Int32 := match A.slots[i]? with | some (.int x) => x | _ => 0
theorem Ch.get {a : Addr} {A : Cell} {U : State} (h : Ch a A U) {i : Nat} (hi : i < A.slots.size) : A.slots[i]? = some (.int (cv A i)) := by
  have e := Array.getElem?_eq_getElem hi
  have f := h.2 i _ e
  unfold cv; rw [e]
  generalize A.slots[i] = v at f
  cases v <;> simp [fits] at f ⊢
/-- the byte that i2b leaves of a char -/
def lo8 (x : Int32) : Int32 := x.toInt8.toInt32
theorem fits_lo8 (y : Int32) : fits .byte (.int (lo8 y)) = true := by
  have h1 := y.toInt8.le_toInt
  have h2 := y.toInt8.toInt_lt
  simp only [lo8, fits, Bool.and_eq_true, decide_eq_true_eq, Int32.le_iff_toInt_le, Int8.toInt_toInt32, show (-128 : Int32).toInt = -128 from by decide, show (127 : Int32).toInt = 127 from by decide]
  omega
/-- A' is A but that each place j of lo .. hi - 1 holds f j -/
def Laid (A A' : Cell) (lo hi : Nat) (f : Nat → Value) : Prop := A'.cls = A.cls ∧ A'.vm = A.vm ∧ A'.slots.size = A.slots.size ∧ ∀ i, A'.slots[i]? = if lo ≤ i ∧ i < hi then some (f i) else A.slots[i]?
theorem Laid.zero (A : Cell) (lo : Nat) (f : Nat → Value) : Laid A A lo (lo + 0) f := ⟨rfl, rfl, rfl, fun i => by rw [if_neg (by omega)]⟩
theorem Laid.step {A Ak : Cell} {lo k : Nat} {f : Nat → Value} {v : Value} (h : Laid A Ak lo k f) (hlo : lo ≤ k) (hk : k < Ak.slots.size) (hv : v = f k) : Laid A (Ak.setSlot k v) lo (k + 1) f := by
  refine ⟨h.1, h.2.1, by simpa [Cell.setSlot] using h.2.2.1, fun i => ?_⟩
  by_cases e : k = i
  · subst e; rw [Cell.slots_setSlot_self v hk, if_pos (by omega), hv]
  · rw [Cell.slots_setSlot_ne v e, h.2.2.2 i]
    by_cases q : lo ≤ i ∧ i < k
    · rw [if_pos q, if_pos (by omega)]
    · rw [if_neg q, if_neg (by omega)]
def U16 : String := "java/lang/StringUTF16"
namespace Cmp5
def yN : MethodName := ⟨"java/lang/StringUTF16", "compress", "([CI[BII)I"⟩
abbrev yB : ByteArray := jdk_52_method_21_code
theorem d0 : decode yB 0 = .ok (.iconst 0, 1) := by decide +kernel
theorem d1 : decode yB 1 = .ok (.istore 5, 2) := by decide +kernel
theorem d3 : decode yB 3 = .ok (.iload 5, 2) := by decide +kernel
theorem d5 : decode yB 5 = .ok (.iload 4, 2) := by decide +kernel
theorem d7 : decode yB 7 = .ok (.if_icmp (.ge) 37, 3) := by decide +kernel
theorem d10 : decode yB 10 = .ok (.aload_n 0, 1) := by decide +kernel
theorem d11 : decode yB 11 = .ok (.iload_n 1, 1) := by decide +kernel
theorem d12 : decode yB 12 = .ok (.caload, 1) := by decide +kernel
theorem d13 : decode yB 13 = .ok (.istore 6, 2) := by decide +kernel
theorem d15 : decode yB 15 = .ok (.iload 6, 2) := by decide +kernel
theorem d17 : decode yB 17 = .ok (.sipush 255, 3) := by decide +kernel
theorem d20 : decode yB 20 = .ok (.if_icmp (.le) 6, 3) := by decide +kernel
theorem d26 : decode yB 26 = .ok (.aload_n 2, 1) := by decide +kernel
theorem d27 : decode yB 27 = .ok (.iload_n 3, 1) := by decide +kernel
theorem d28 : decode yB 28 = .ok (.iload 6, 2) := by decide +kernel
theorem d30 : decode yB 30 = .ok (.i2b, 1) := by decide +kernel
theorem d31 : decode yB 31 = .ok (.bastore, 1) := by decide +kernel
theorem d32 : decode yB 32 = .ok (.iinc 1 1, 3) := by decide +kernel
theorem d35 : decode yB 35 = .ok (.iinc 3 1, 3) := by decide +kernel
theorem d38 : decode yB 38 = .ok (.iinc 5 1, 3) := by decide +kernel
theorem d41 : decode yB 41 = .ok (.goto (-38), 3) := by decide +kernel
theorem d44 : decode yB 44 = .ok (.iload 4, 2) := by decide +kernel
theorem d46 : decode yB 46 = .ok (.ireturn, 1) := by decide +kernel
def site : List Cond := []
def tab : Cond := tabOf yN yB 7 (some .int) site
def P (b : Addr) (A : Cell) (d : Addr) (B : Cell) (o q len : Nat) (args : Array Value) (s : State) : Prop := args = #[.ref b, .int (Int32.ofNat o), .ref d, .int (Int32.ofNat q), .int (Int32.ofNat len)] ∧ Ch b A s ∧ Arr .byte d B s ∧ b ≠ d ∧ o + len ≤ A.slots.size ∧ q + len ≤ B.slots.size ∧ ∀ i, i < len → ¬ 255 < cv A (o + i)
def E (b : Addr) (A : Cell) (d : Addr) (B : Cell) (o q len : Nat) (r : Option Value) (s u : State) : Prop := r = some (.int (Int32.ofNat len)) ∧ ∃ B', Put d B' s u ∧ Laid B B' q (q + len) (fun j => Value.int (lo8 (cv A (o + (j - q)))))
/-- no char of the range above 255: len; the places written hold each char's low byte -/
theorem law (l : Launch) (b : Addr) (A : Cell) (d : Addr) (B : Cell) (o q len : Nat) : Law l yN 5 5 0 0 yB 7 (some .int) site (P b A d B o q len) (E b A d B o q len) (copyLocs d q len) 0 0 := by
  refine Law.of_walk (plainFor_of_name (by decide +kernel)) (by decide +kernel) (by decide +kernel) (by decide) (fun _ _ h => by rw [h.1]; rfl) (fun _ U U' hal hh h => ⟨h.1, h.2.1.mv hal hh, h.2.2.1.mv hal hh, h.2.2.2⟩) (fun r U U' V V' h1 hal h2 h => ⟨h.1, h.2.elim fun B' q => ⟨B', q.1.mv h1 h2, q.2⟩⟩) ?_
  intro p e s m args below meth c s₁ X0 hexec hbytes hml hret hlk hnm hown hh0 W hP
  obtain ⟨rfl, hA, hB, hne, l1, l2, hp⟩ := hP
  have c1 : Steps p.tables e below (s₁.setTop (entryFrame m #[.ref b, .int (Int32.ofNat o), .ref d, .int (Int32.ofNat q), .int (Int32.ofNat len)] 7)) (s₁.setTop (mkF m 0 #[.val (.ref b), .val (.int (Int32.ofNat o)), .val (.ref d), .val (.int (Int32.ofNat q)), .val (.int (Int32.ofNat len)), .unset, .unset] [])) := entry rfl
  have hA0 := hA.1.mv X0.warmed.alike hh0
  have hB0 := hB.mv X0.warmed.alike hh0
  have a31 := hA.1.2.2.2
  have c2 : Steps p.tables e below (s₁.setTop (entryFrame m #[.ref b, .int (Int32.ofNat o), .ref d, .int (Int32.ofNat q), .int (Int32.ofNat len)] 7)) (s₁.setTop (mkF m 3 #[.val (.ref b), .val (.int (Int32.ofNat o)), .val (.ref d), .val (.int (Int32.ofNat q)), .val (.int (Int32.ofNat len)), .val (.int 0), .unset] [])) := c1.trans (by
    refine iconstV X0.here hexec rfl 0 (hb hbytes d0) (by decide) ?_
    refine XS.istore X0.here hexec rfl (hb hbytes d1) rfl rfl ?_
    exact Steps.refl _)
  have loop : ∀ (r i : Nat), i + r = len → ∀ (z : Slot), (z = .unset ∨ ∃ w, z = .val w ∧ w.category = 1) → ∀ (Tl : State) (Bk : Cell), Stand p l e { frames := 0, locals := 0, cells := 0, slots := 0 } s m #[.ref b, .int (Int32.ofNat o), .ref d, .int (Int32.ofNat q), .int (Int32.ofNat len)] below meth c Tl ([] ++ copyLocs d q i) 0 0 → Put d Bk s₁ Tl → Laid B Bk q (q + i) (fun j => Value.int (lo8 (cv A (o + (j - q))))) →
      Steps p.tables e below (s₁.setTop (entryFrame m #[.ref b, .int (Int32.ofNat o), .ref d, .int (Int32.ofNat q), .int (Int32.ofNat len)] 7)) (Tl.setTop (mkF m 3 #[.val (.ref b), .val (.int (Int32.ofNat (o + i))), .val (.ref d), .val (.int (Int32.ofNat (q + i))), .val (.int (Int32.ofNat len)), .val (.int (Int32.ofNat i)), z] [])) → ∃ (T' : State) (B' : Cell) (z' : Slot), Stand p l e { frames := 0, locals := 0, cells := 0, slots := 0 } s m #[.ref b, .int (Int32.ofNat o), .ref d, .int (Int32.ofNat q), .int (Int32.ofNat len)] below meth c T' ([] ++ copyLocs d q len) 0 0 ∧ Put d B' s₁ T' ∧ Laid B B' q (q + len) (fun j => Value.int (lo8 (cv A (o + (j - q))))) ∧
      Steps p.tables e below (s₁.setTop (entryFrame m #[.ref b, .int (Int32.ofNat o), .ref d, .int (Int32.ofNat q), .int (Int32.ofNat len)] 7)) (T'.setTop (mkF m 3 #[.val (.ref b), .val (.int (Int32.ofNat (o + len))), .val (.ref d), .val (.int (Int32.ofNat (q + len))), .val (.int (Int32.ofNat len)), .val (.int (Int32.ofNat len)), z'] [])) := by
    intro r
    induction r with
    | zero =>
      intro i hi z hz Tl Bk Xl pl fl cl
      have hil : i = len := by omega
      rw [hil] at Xl fl cl
      exact ⟨Tl, Bk, z, Xl, pl, fl, cl⟩
    | succ r ih =>
      intro i hi z hz Tl Bk Xl pl fl cl
      have all := X0.warmed.alike.symm.trans Xl.warmed.alike
      have hAl := hA0.keep all (pl.other hne hA0.1)
      have hBk := hB0.like all pl.1 fl.1 fl.2.1 fl.2.2.1
      have hlt : q + i < Bk.slots.size := by rw [fl.2.2.1]; omega
      have c3 : Steps p.tables e below (s₁.setTop (entryFrame m #[.ref b, .int (Int32.ofNat o), .ref d, .int (Int32.ofNat q), .int (Int32.ofNat len)] 7)) (Tl.setTop (mkF m 12 #[.val (.ref b), .val (.int (Int32.ofNat (o + i))), .val (.ref d), .val (.int (Int32.ofNat (q + i))), .val (.int (Int32.ofNat len)), .val (.int (Int32.ofNat i)), z] [.int (Int32.ofNat (o + i)), .ref b])) := cl.trans (by
        refine XS.iload Xl.here hexec rfl (hb hbytes d3) rfl ?_
        refine XS.iload Xl.here hexec rfl (hb hbytes d5) rfl ?_
        refine XS.icmpNo Xl.here hexec rfl (hb hbytes d7) rfl (ii_ge_f (lt32 (by omega) (by omega))) ?_
        refine XS.aloadN Xl.here hexec rfl (hb hbytes d10) rfl rfl ?_
        refine XS.iloadN Xl.here hexec rfl (hb hbytes d11) rfl ?_
        exact Steps.refl _)
      have c4 : Steps p.tables e below (s₁.setTop (entryFrame m #[.ref b, .int (Int32.ofNat o), .ref d, .int (Int32.ofNat q), .int (Int32.ofNat len)] 7)) (Tl.setTop (mkF m 13 #[.val (.ref b), .val (.int (Int32.ofNat (o + i))), .val (.ref d), .val (.int (Int32.ofNat (q + i))), .val (.int (Int32.ofNat len)), .val (.int (Int32.ofNat i)), z] [.int (cv A (o + i))])) := c3.trans (by
        refine Xl.aget hexec hAl rfl (hA.get (i := o + i) (by omega)) rfl rfl (hb hbytes d12) ?_
        exact Steps.refl _)
      have c5 : Steps p.tables e below (s₁.setTop (entryFrame m #[.ref b, .int (Int32.ofNat o), .ref d, .int (Int32.ofNat q), .int (Int32.ofNat len)] 7)) (Tl.setTop (mkF m 15 #[.val (.ref b), .val (.int (Int32.ofNat (o + i))), .val (.ref d), .val (.int (Int32.ofNat (q + i))), .val (.int (Int32.ofNat len)), .val (.int (Int32.ofNat i)), .val (.int (cv A (o + i)))] [])) := c4.trans (by
        refine XS.istoreS Xl.here hexec rfl (hb hbytes d13) rfl rfl hz ?_
        exact Steps.refl _)
      have c6 : Steps p.tables e below (s₁.setTop (entryFrame m #[.ref b, .int (Int32.ofNat o), .ref d, .int (Int32.ofNat q), .int (Int32.ofNat len)] 7)) (Tl.setTop (mkF m 31 #[.val (.ref b), .val (.int (Int32.ofNat (o + i))), .val (.ref d), .val (.int (Int32.ofNat (q + i))), .val (.int (Int32.ofNat len)), .val (.int (Int32.ofNat i)), .val (.int (cv A (o + i)))] [.int (lo8 (cv A (o + i))), .int (Int32.ofNat (q + i)), .ref d])) := c5.trans (by
        refine XS.iload Xl.here hexec rfl (hb hbytes d15) rfl ?_
        refine sipushV Xl.here hexec rfl 255 (hb hbytes d17) (by decide) ?_
        refine XS.icmpYes Xl.here hexec rfl (pc0 := 20) rfl (hb hbytes d20) rfl (ii_le_t (hp i (by omega))) (by decide) rfl ?_
        refine XS.aloadN Xl.here hexec rfl (hb hbytes d26) rfl rfl ?_
        refine XS.iloadN Xl.here hexec rfl (hb hbytes d27) rfl ?_
        refine XS.iload Xl.here hexec rfl (hb hbytes d28) rfl ?_
        refine i2b Xl.here hexec rfl (hb hbytes d30) rfl ?_
        exact Steps.refl _)
      obtain ⟨T7, X7, p7, st7⟩ := Xl.aput hexec hBk rfl hlt rfl (fits_lo8 (cv A (o + i))) (g := (mkF m 31 #[.val (.ref b), .val (.int (Int32.ofNat (o + i))), .val (.ref d), .val (.int (Int32.ofNat (q + i))), .val (.int (Int32.ofNat len)), .val (.int (Int32.ofNat i)), .val (.int (cv A (o + i)))] [.int (lo8 (cv A (o + i))), .int (Int32.ofNat (q + i)), .ref d])) rfl (rest := []) rfl (hb hbytes d31)
      have c8 : Steps p.tables e below (s₁.setTop (entryFrame m #[.ref b, .int (Int32.ofNat o), .ref d, .int (Int32.ofNat q), .int (Int32.ofNat len)] 7)) (T7.setTop (mkF m 32 #[.val (.ref b), .val (.int (Int32.ofNat (o + i))), .val (.ref d), .val (.int (Int32.ofNat (q + i))), .val (.int (Int32.ofNat len)), .val (.int (Int32.ofNat i)), .val (.int (cv A (o + i)))] [])) := c6.trans (st7 _ (Steps.refl _))
      have c9 : Steps p.tables e below (s₁.setTop (entryFrame m #[.ref b, .int (Int32.ofNat o), .ref d, .int (Int32.ofNat q), .int (Int32.ofNat len)] 7)) (T7.setTop (mkF m 3 #[.val (.ref b), .val (.int (Int32.ofNat (o + i) + 1)), .val (.ref d), .val (.int (Int32.ofNat (q + i) + 1)), .val (.int (Int32.ofNat len)), .val (.int (Int32.ofNat i + 1)), .val (.int (cv A (o + i)))] [])) := c8.trans (by
        refine iincV X7.here hexec rfl 1 (hb hbytes d32) (by decide) rfl rfl ?_
        refine iincV X7.here hexec rfl 1 (hb hbytes d35) (by decide) rfl rfl ?_
        refine iincV X7.here hexec rfl 1 (hb hbytes d38) (by decide) rfl rfl ?_
        refine XS.goto X7.here hexec rfl (pc0 := 41) rfl (hb hbytes d41) (by decide) rfl ?_
        exact Steps.refl _)
      have c10 : Steps p.tables e below (s₁.setTop (entryFrame m #[.ref b, .int (Int32.ofNat o), .ref d, .int (Int32.ofNat q), .int (Int32.ofNat len)] 7)) (T7.setTop (mkF m 3 #[.val (.ref b), .val (.int (Int32.ofNat (o + (i + 1)))), .val (.ref d), .val (.int (Int32.ofNat (q + (i + 1)))), .val (.int (Int32.ofNat len)), .val (.int (Int32.ofNat (i + 1))), .val (.int (cv A (o + i)))] [])) := by
        have := c9
        rw [succ32, succ32, succ32] at this
        exact this
      exact ih (i + 1) (by omega) _ (Or.inr ⟨_, rfl, rfl⟩) T7 _ (by rw [copyLocs_step, ← List.append_assoc]; exact X7) (pl.trans p7) (fl.step (by omega) hlt (by simp)) c10
  obtain ⟨T9, B9, z9, X9, p9, f9, g9⟩ := loop len 0 (by omega) .unset (Or.inl rfl) s₁ B (by simpa [copyLocs] using X0) ⟨hB0.1, fun _ _ => rfl, rfl⟩ (Laid.zero _ _ _) c2
  have c11 : Steps p.tables e below (s₁.setTop (entryFrame m #[.ref b, .int (Int32.ofNat o), .ref d, .int (Int32.ofNat q), .int (Int32.ofNat len)] 7)) (T9.setTop (mkF m 46 #[.val (.ref b), .val (.int (Int32.ofNat (o + len))), .val (.ref d), .val (.int (Int32.ofNat (q + len))), .val (.int (Int32.ofNat len)), .val (.int (Int32.ofNat len)), z9] [.int (Int32.ofNat len)])) := g9.trans (by
    refine XS.iload X9.here hexec rfl (hb hbytes d3) rfl ?_
    refine XS.iload X9.here hexec rfl (hb hbytes d5) rfl ?_
    refine XS.icmpYes X9.here hexec rfl (pc0 := 7) rfl (hb hbytes d7) rfl (ii_ge_t (nlt32 (by omega) (Nat.le_refl _))) (by decide) rfl ?_
    refine XS.iload X9.here hexec rfl (hb hbytes d44) rfl ?_
    exact Steps.refl _)
  exact ⟨T9, some (.int (Int32.ofNat len)), _, _, _, X9, by simp, rfl, rfl, (fun h => by cases h), ⟨rfl, B9, p9.from hh0, f9⟩, fun fs hl => c11.trans (X9.ireturnOut hexec hret rfl (Or.inl rfl) (hb hbytes d46) hl)⟩
end Cmp5
namespace Cmp3
def yN : MethodName := ⟨"java/lang/StringUTF16", "compress", "([CII)[B"⟩
abbrev yB : ByteArray := jdk_52_method_16_code
theorem d0 : decode yB 0 = .ok (.iload_n 2, 1) := by decide +kernel
theorem d1 : decode yB 1 = .ok (.newarray .byte, 2) := by decide +kernel
theorem d3 : decode yB 3 = .ok (.astore_n 3, 1) := by decide +kernel
theorem d4 : decode yB 4 = .ok (.aload_n 0, 1) := by decide +kernel
theorem d5 : decode yB 5 = .ok (.iload_n 1, 1) := by decide +kernel
theorem d6 : decode yB 6 = .ok (.aload_n 3, 1) := by decide +kernel
theorem d7 : decode yB 7 = .ok (.iconst 0, 1) := by decide +kernel
theorem d8 : decode yB 8 = .ok (.iload_n 2, 1) := by decide +kernel
theorem d9 : decode yB 9 = .ok (.invokestatic 115, 3) := by decide +kernel
theorem d12 : decode yB 12 = .ok (.istore 4, 2) := by decide +kernel
theorem d14 : decode yB 14 = .ok (.iload 4, 2) := by decide +kernel
theorem d16 : decode yB 16 = .ok (.iload_n 2, 1) := by decide +kernel
theorem d17 : decode yB 17 = .ok (.if_icmp (.eq) 40, 3) := by decide +kernel
theorem d57 : decode yB 57 = .ok (.aload_n 3, 1) := by decide +kernel
theorem d58 : decode yB 58 = .ok (.areturn, 1) := by decide +kernel
def site : List Cond := [.arrayClass .byte, Cmp5.tab] ++ staticW U16 115 Cmp5.yN
def tab : Cond := tabOf yN yB 6 (some (.array .byte)) site
def P (b : Addr) (A : Cell) (o len : Nat) (args : Array Value) (s : State) : Prop := args = #[.ref b, .int (Int32.ofNat o), .int (Int32.ofNat len)] ∧ Ch b A s ∧ o + len ≤ A.slots.size ∧ len ≤ 536870912 ∧ ∀ i, i < len → ¬ 255 < cv A (o + i)
def E (b : Addr) (A : Cell) (o len : Nat) (r : Option Value) (s u : State) : Prop := NewArr .byte "[B" len (fun j => .int (lo8 (cv A (o + j)))) r s u ∧ u.heap.size = s.heap.size + 1
/-- no char of the range above 255: a new byte[] of their low bytes -/
theorem law (l : Launch) (b : Addr) (A : Cell) (o len : Nat) : Law l yN 3 3 1 18 yB 6 (some (.array .byte)) site (P b A o len) (E b A o len) [] 1 len := by
  refine Law.of_walk (plainFor_of_name (by decide +kernel)) (by decide +kernel) (by decide +kernel) (by decide) (fun _ _ h => by rw [h.1]; rfl) (fun _ U U' hal hh h => ⟨h.1, h.2.1.mv hal hh, h.2.2⟩) (fun r U U' V V' h1 hal h2 h => ⟨NewArr.mv r U U' V V' h1 hal h2 h.1, by rw [h1, h2]; exact h.2⟩) ?_
  intro p e s m args below meth c s₁ X0 hexec hbytes hml hret hlk hnm hown hh0 W hP
  obtain ⟨rfl, hA, l1, l2, hp⟩ := hP
  have a31 := hA.1.2.2.2
  have c1 : Steps p.tables e below (s₁.setTop (entryFrame m #[.ref b, .int (Int32.ofNat o), .int (Int32.ofNat len)] 6)) (s₁.setTop (mkF m 0 #[.val (.ref b), .val (.int (Int32.ofNat o)), .val (.int (Int32.ofNat len)), .unset, .unset, .unset] [])) := entry rfl
  have c2 : Steps p.tables e below (s₁.setTop (entryFrame m #[.ref b, .int (Int32.ofNat o), .int (Int32.ofNat len)] 6)) (s₁.setTop (mkF m 1 #[.val (.ref b), .val (.int (Int32.ofNat o)), .val (.int (Int32.ofNat len)), .unset, .unset, .unset] [.int (Int32.ofNat len)])) := c1.trans (by
    refine XS.iloadN X0.here hexec rfl (hb hbytes d0) rfl ?_
    exact Steps.refl _)
  obtain ⟨T3, B3, X3, ba3, bs3, bv3, bh3, bf3, st3⟩ := X0.anew hexec (atype := .byte) (wk W (.arrayClass .byte)) rfl (by show len * 1 ≤ _; omega) (by omega) (g := (mkF m 1 #[.val (.ref b), .val (.int (Int32.ofNat o)), .val (.int (Int32.ofNat len)), .unset, .unset, .unset] [.int (Int32.ofNat len)])) rfl (hb hbytes d1) (rest := []) rfl (Nat.le_refl _) (by show 0 + len ≤ len; omega)
  rw [hh0] at ba3 st3
  have kp3 : XT.Kept s T3 := (XT.Kept.of_eq hh0).push bh3
  have hA3 := hA.keep X3.warmed.alike (kp3 _ _ hA.1.1)
  have hne : b ≠ s.heap.size := hA.1.ne
  have c4 : Steps p.tables e below (s₁.setTop (entryFrame m #[.ref b, .int (Int32.ofNat o), .int (Int32.ofNat len)] 6)) (T3.setTop (mkF m 3 #[.val (.ref b), .val (.int (Int32.ofNat o)), .val (.int (Int32.ofNat len)), .unset, .unset, .unset] [.ref s.heap.size])) := c2.trans (st3 _ (Steps.refl _))
  have c5 : Steps p.tables e below (s₁.setTop (entryFrame m #[.ref b, .int (Int32.ofNat o), .int (Int32.ofNat len)] 6)) (T3.setTop (mkF m 9 #[.val (.ref b), .val (.int (Int32.ofNat o)), .val (.int (Int32.ofNat len)), .val (.ref s.heap.size), .unset, .unset] [.int (Int32.ofNat len), .int 0, .ref s.heap.size, .int (Int32.ofNat o), .ref b])) := c4.trans (by
    refine XS.astoreN X3.here hexec rfl (hb hbytes d3) rfl rfl rfl ?_
    refine XS.aloadN X3.here hexec rfl (hb hbytes d4) rfl rfl ?_
    refine XS.iloadN X3.here hexec rfl (hb hbytes d5) rfl ?_
    refine XS.aloadN X3.here hexec rfl (hb hbytes d6) rfl rfl ?_
    refine iconstV X3.here hexec rfl 0 (hb hbytes d7) (by decide) ?_
    refine XS.iloadN X3.here hexec rfl (hb hbytes d8) rfl ?_
    exact Steps.refl _)
  obtain ⟨v6, T6, X6, E6, g6⟩ := X3.callS hexec (Cmp5.law l b A s.heap.size B3 o 0 len) hown (wks W (staticW U16 115 Cmp5.yN)) (wk W Cmp5.tab) (W := 0) (Nat.le_of_ble_eq_true rfl) (Nat.le_of_ble_eq_true rfl) (Nat.le_refl _) (by show 0 + len + 0 ≤ len; omega) (g := (mkF m 9 #[.val (.ref b), .val (.int (Int32.ofNat o)), .val (.int (Int32.ofNat len)), .val (.ref s.heap.size), .unset, .unset] [.int (Int32.ofNat len), .int (Int32.ofNat 0), .ref s.heap.size, .int (Int32.ofNat o), .ref b])) rfl (by rw [hml]; rfl) c5 (argsL := [.ref b, .int (Int32.ofNat o), .ref s.heap.size, .int (Int32.ofNat 0), .int (Int32.ofNat len)]) (rest := []) rfl rfl (by show 2 * 0 + 0 ≤ _; decide) (hb hbytes d9) (⟨rfl, hA3, ba3, hne, l1, by rw [bs3]; simp, hp⟩)
  obtain ⟨rfl, B6, p6, f6⟩ := E6
  have c7 : Steps p.tables e below (s₁.setTop (entryFrame m #[.ref b, .int (Int32.ofNat o), .int (Int32.ofNat len)] 6)) (T6.setTop (mkF m 12 #[.val (.ref b), .val (.int (Int32.ofNat o)), .val (.int (Int32.ofNat len)), .val (.ref s.heap.size), .unset, .unset] [.int (Int32.ofNat len)])) := g6
  have c8 : Steps p.tables e below (s₁.setTop (entryFrame m #[.ref b, .int (Int32.ofNat o), .int (Int32.ofNat len)] 6)) (T6.setTop (mkF m 58 #[.val (.ref b), .val (.int (Int32.ofNat o)), .val (.int (Int32.ofNat len)), .val (.ref s.heap.size), .val (.int (Int32.ofNat len)), .unset] [.ref s.heap.size])) := c7.trans (by
    refine XS.istore X6.here hexec rfl (hb hbytes d12) rfl rfl ?_
    refine XS.iload X6.here hexec rfl (hb hbytes d14) rfl ?_
    refine XS.iloadN X6.here hexec rfl (hb hbytes d16) rfl ?_
    refine XS.icmpYes X6.here hexec rfl (pc0 := 17) rfl (hb hbytes d17) rfl (ii_eq_t rfl) (by decide) rfl ?_
    refine XS.aloadN X6.here hexec rfl (hb hbytes d57) rfl rfl ?_
    exact Steps.refl _)
  have X8 := X6.wide (L' := []) (cells' := 1) (slots' := len) (fun x hx hlt => by
    simp only [List.nil_append, copyLocs, List.mem_map, List.mem_range] at hx
    obtain ⟨i, -, rfl⟩ := hx
    exact absurd hlt (Nat.lt_irrefl _)) (Nat.le_refl _) (by omega)
  exact ⟨T6, some (.ref s.heap.size), _, _, _, X8, rfl, rfl, rfl, (fun h => by cases h), ⟨⟨rfl, B6, ba3.like (X3.warmed.alike.symm.trans X6.warmed.alike) p6.1 f6.1 f6.2.1 f6.2.2.1, f6.2.1.trans bv3, by rw [X6.warmed.alike.findClass, f6.1]; exact bf3, by rw [f6.2.2.1, bs3]; simp, fun j hj => by rw [f6.2.2.2 j, if_pos (by omega)]; rfl, kp3.put p6 (Nat.le_refl _)⟩, by rw [p6.2.2, bh3, hh0]; simp⟩, fun fs hl => c8.trans (X8.areturnOut hexec rfl hret rfl (hb hbytes d58) hl)⟩
end Cmp3
namespace CodL
def yN : MethodName := ⟨"java/lang/StringUTF16", "coderFromArrayLen", "([BI)B"⟩
abbrev yB : ByteArray := jdk_52_method_15_code
theorem d0 : decode yB 0 = .ok (.iload_n 1, 1) := by decide +kernel
theorem d1 : decode yB 1 = .ok (.aload_n 0, 1) := by decide +kernel
theorem d2 : decode yB 2 = .ok (.arraylength, 1) := by decide +kernel
theorem d3 : decode yB 3 = .ok (.isub, 1) := by decide +kernel
theorem d4 : decode yB 4 = .ok (.bipush 31, 2) := by decide +kernel
theorem d6 : decode yB 6 = .ok (.iushr, 1) := by decide +kernel
theorem d7 : decode yB 7 = .ok (.i2b, 1) := by decide +kernel
theorem d8 : decode yB 8 = .ok (.ireturn, 1) := by decide +kernel
def site : List Cond := []
def tab : Cond := tabOf yN yB 2 (some .byte) site
def P (d : Addr) (B : Cell) (args : Array Value) (s : State) : Prop := args = #[.ref d, .int (Int32.ofNat B.slots.size)] ∧ Arr .byte d B s
def E (r : Option Value) (s u : State) : Prop := XT.PureE (some (.int 0)) r s u
/-- an array as long as the number of chars: LATIN1 -/
theorem law (l : Launch) (d : Addr) (B : Cell) : Law l yN 2 2 0 0 yB 2 (some .byte) site (P d B) E [] 0 0 := by
  refine Law.of_walk (plainFor_of_name (by decide +kernel)) (by decide +kernel) (by decide +kernel) (by decide) (fun _ _ h => by rw [h.1]; rfl) (fun _ U U' hal hh h => ⟨h.1, h.2.mv hal hh⟩) (fun r U U' V V' h1 hal h2 h => XT.PureE.mv r U U' V V' h1 hal h2 h) ?_
  intro p e s m args below meth c s₁ X0 hexec hbytes hml hret hlk hnm hown hh0 W hP
  obtain ⟨rfl, hB⟩ := hP
  have hB0 := hB.mv X0.warmed.alike hh0
  have c1 : Steps p.tables e below (s₁.setTop (entryFrame m #[.ref d, .int (Int32.ofNat B.slots.size)] 2)) (s₁.setTop (mkF m 0 #[.val (.ref d), .val (.int (Int32.ofNat B.slots.size))] [])) := entry rfl
  have c2 : Steps p.tables e below (s₁.setTop (entryFrame m #[.ref d, .int (Int32.ofNat B.slots.size)] 2)) (s₁.setTop (mkF m 2 #[.val (.ref d), .val (.int (Int32.ofNat B.slots.size))] [.ref d, .int (Int32.ofNat B.slots.size)])) := c1.trans (by
    refine XS.iloadN X0.here hexec rfl (hb hbytes d0) rfl ?_
    refine XS.aloadN X0.here hexec rfl (hb hbytes d1) rfl rfl ?_
    exact Steps.refl _)
  have c3 : Steps p.tables e below (s₁.setTop (entryFrame m #[.ref d, .int (Int32.ofNat B.slots.size)] 2)) (s₁.setTop (mkF m 8 #[.val (.ref d), .val (.int (Int32.ofNat B.slots.size))] [.int (lo8 (ushr (Int32.ofNat B.slots.size - Int32.ofNat B.slots.size) 31))])) := c2.trans (by
    refine X0.alen hexec hB0 rfl rfl (hb hbytes d2) ?_
    refine XS.isub X0.here hexec rfl (hb hbytes d3) rfl ?_
    refine bipushV X0.here hexec rfl 31 (hb hbytes d4) (by decide) ?_
    refine iushr X0.here hexec rfl (hb hbytes d6) rfl ?_
    refine i2b X0.here hexec rfl (hb hbytes d7) rfl ?_
    exact Steps.refl _)
  have e0 : lo8 (ushr (Int32.ofNat B.slots.size - Int32.ofNat B.slots.size) 31) = 0 := by rw [Int32.sub_self]; decide
  rw [e0] at c3
  exact ⟨s₁, some (.int 0), _, _, _, X0, rfl, rfl, rfl, (fun h => by cases h), ⟨rfl, hh0⟩, fun fs hl => c3.trans (X0.ireturnOut hexec hret rfl (Or.inr (Or.inr (Or.inl rfl))) (hb hbytes d8) hl)⟩
end CodL
/-- the String at a is Latin-1 over a new byte[] (the heap's one new cell): the low bytes of the len chars of A from o on; every cell but a is kept -/
def Got (a : Addr) (D : Cell) (fV fC : Field) (A : Cell) (o len : Nat) (r : Option Value) (s u : State) : Prop := r = none ∧ ∃ D' V : Cell, Blank "java/lang/String" a D' u ∧ Same D D' [fV.slot, fC.slot] ∧ D'.slots[fV.slot]? = some (.ref s.heap.size) ∧ D'.slots[fC.slot]? = some (.int 0) ∧ Arr .byte s.heap.size V u ∧ V.vm = .none ∧ u.vm.findClass "[B" = some V.cls ∧ V.slots.size = len ∧ (∀ j, j < len → V.slots[j]? = some (.int (lo8 (cv A (o + j))))) ∧ (∀ (y : Addr) (c : Cell), y ≠ a → s.heap[y]? = some c → u.heap[y]? = some c) ∧ u.heap.size = s.heap.size + 1
theorem Got.mv {a : Addr} {D A : Cell} {fV fC : Field} {o len : Nat} : ∀ r (U U' V V' : State), U'.heap = U.heap → V.vm.Alike V'.vm → V'.heap = V.heap → Got a D fV fC A o len r U V → Got a D fV fC A o len r U' V' :=
  fun r U U' V V' h1 hal h2 ⟨e0, D', X, a1, a2, a3, a4, a5, a6, a7, a8, a9, a10, a11⟩ => ⟨e0, D', X, a1.mv hal h2, a2, by rw [h1]; exact a3, a4, by rw [h1]; exact a5.mv hal h2, a6, by rw [hal.findClass]; exact a7, a8, a9, by rw [h1, h2]; exact a10, by rw [h1, h2]; exact a11⟩
namespace New4
def yN : MethodName := ⟨"java/lang/String", "<init>", "([CIILjava/lang/Void;)V"⟩
abbrev yB : ByteArray := jdk_42_method_149_code
theorem d0 : decode yB 0 = .ok (.aload_n 0, 1) := by decide +kernel
theorem d1 : decode yB 1 = .ok (.invokespecial 1, 3) := by decide +kernel
theorem d4 : decode yB 4 = .ok (.iload_n 3, 1) := by decide +kernel
theorem d5 : decode yB 5 = .ok (.ifCond (.ne) 22, 3) := by decide +kernel
theorem d27 : decode yB 27 = .ok (.getstatic 38, 3) := by decide +kernel
theorem d30 : decode yB 30 = .ok (.ifCond (.eq) 28, 3) := by decide +kernel
theorem d33 : decode yB 33 = .ok (.aload_n 1, 1) := by decide +kernel
theorem d34 : decode yB 34 = .ok (.iload_n 2, 1) := by decide +kernel
theorem d35 : decode yB 35 = .ok (.iload_n 3, 1) := by decide +kernel
theorem d36 : decode yB 36 = .ok (.invokestatic 177, 3) := by decide +kernel
theorem d39 : decode yB 39 = .ok (.astore 5, 2) := by decide +kernel
theorem d41 : decode yB 41 = .ok (.aload_n 0, 1) := by decide +kernel
theorem d42 : decode yB 42 = .ok (.aload 5, 2) := by decide +kernel
theorem d44 : decode yB 44 = .ok (.iload_n 3, 1) := by decide +kernel
theorem d45 : decode yB 45 = .ok (.invokestatic 47, 3) := by decide +kernel
theorem d48 : decode yB 48 = .ok (.putfield 15, 3) := by decide +kernel
theorem d51 : decode yB 51 = .ok (.aload_n 0, 1) := by decide +kernel
theorem d52 : decode yB 52 = .ok (.aload 5, 2) := by decide +kernel
theorem d54 : decode yB 54 = .ok (.putfield 9, 3) := by decide +kernel
theorem d57 : decode yB 57 = .ok (.return_, 1) := by decide +kernel
def site : List Cond := [.fieldLink "java/lang/String" 38 "java/lang/String" "COMPACT_STRINGS" "Z", Cmp3.tab, CodL.tab, .laysFinal "java/lang/String" "java/lang/String" "value" "[B", .fieldLink "java/lang/String" 9 "java/lang/String" "value" "[B", .laysFinal "java/lang/String" "java/lang/String" "coder" "B", .fieldLink "java/lang/String" 15 "java/lang/String" "coder" "B"] ++ objW "java/lang/String" 1 ++ staticW "java/lang/String" 177 Cmp3.yN ++ staticW "java/lang/String" 47 CodL.yN
def tab : Cond := tabOf yN yB 6 none site
def P (a : Addr) (D : Cell) (fV fC : Field) (b : Addr) (A : Cell) (z : Int32) (o len : Nat) (args : Array Value) (s : State) : Prop := args = #[.ref a, .ref b, .int (Int32.ofNat o), .int (Int32.ofNat len), .null] ∧ Blank "java/lang/String" a D s ∧ Found "java/lang/String" "value" "[B" fV s ∧ Found "java/lang/String" "coder" "B" fC s ∧ Ch b A s ∧ StaticIs s "java/lang/String" "COMPACT_STRINGS" "Z" (.int z) ∧ ¬ z = 0 ∧ 0 < len ∧ o + len ≤ A.slots.size ∧ len ≤ 536870912 ∧ ∀ i, i < len → ¬ 255 < cv A (o + i)
def E (a : Addr) (D : Cell) (fV fC : Field) (A : Cell) (o len : Nat) (r : Option Value) (s u : State) : Prop := Got a D fV fC A o len r s u
/-- len > 0, no char of the range above 255: a Latin-1 String of their low bytes -/
theorem law (l : Launch) (a : Addr) (D : Cell) (fV fC : Field) (b : Addr) (A : Cell) (z : Int32) (o len : Nat) : Law l yN 5 4 2 35 yB 6 none site (P a D fV fC b A z o len) (E a D fV fC A o len) [⟨a, fC.slot⟩, ⟨a, fV.slot⟩] 1 len := by
  refine Law.of_walk (plainFor_of_name (by decide +kernel)) (by decide +kernel) (by decide +kernel) (by decide) (fun _ _ h => by rw [h.1]; rfl) (fun _ U U' hal hh h => ⟨h.1, h.2.1.mv hal hh, h.2.2.1.al hal, h.2.2.2.1.al hal, h.2.2.2.2.1.mv hal hh, h.2.2.2.2.2.1.there hal hh, h.2.2.2.2.2.2⟩) (fun r U U' V V' h1 hal h2 h => Got.mv r U U' V V' h1 hal h2 h) ?_
  intro p e s m args below meth c s₁ X0 hexec hbytes hml hret hlk hnm hown hh0 W hP
  obtain ⟨rfl, hB, f1, f2, hA, s1, hz, l0, l1, l2, hp⟩ := hP
  have a31 := hA.1.2.2.2
  have c1 : Steps p.tables e below (s₁.setTop (entryFrame m #[.ref a, .ref b, .int (Int32.ofNat o), .int (Int32.ofNat len), .null] 6)) (s₁.setTop (mkF m 0 #[.val (.ref a), .val (.ref b), .val (.int (Int32.ofNat o)), .val (.int (Int32.ofNat len)), .val .null, .unset] [])) := entry rfl
  have c2 : Steps p.tables e below (s₁.setTop (entryFrame m #[.ref a, .ref b, .int (Int32.ofNat o), .int (Int32.ofNat len), .null] 6)) (s₁.setTop (mkF m 1 #[.val (.ref a), .val (.ref b), .val (.int (Int32.ofNat o)), .val (.int (Int32.ofNat len)), .val .null, .unset] [.ref a])) := c1.trans (by
    refine XS.aloadN X0.here hexec rfl (hb hbytes d0) rfl rfl ?_
    exact Steps.refl _)
  obtain ⟨T3, X3, q3, st3⟩ := X0.oinit hexec hown (wks W (objW "java/lang/String" 1)) (g := (mkF m 1 #[.val (.ref a), .val (.ref b), .val (.int (Int32.ofNat o)), .val (.int (Int32.ofNat len)), .val .null, .unset] [.ref a])) rfl (by rw [hml]; rfl) (rest := []) rfl (hb hbytes d1) (W := 0) (by show 2 * 0 + 0 ≤ _; decide) (Nat.le_of_ble_eq_true rfl) (Nat.le_of_ble_eq_true rfl)
  have hh3 := q3.trans hh0
  have c4 : Steps p.tables e below (s₁.setTop (entryFrame m #[.ref a, .ref b, .int (Int32.ofNat o), .int (Int32.ofNat len), .null] 6)) (T3.setTop (mkF m 27 #[.val (.ref a), .val (.ref b), .val (.int (Int32.ofNat o)), .val (.int (Int32.ofNat len)), .val .null, .unset] [])) := (c2.trans (st3 _ (Steps.refl _))).trans (by
    refine XS.iloadN X3.here hexec rfl (hb hbytes d4) rfl ?_
    refine XS.ifYes X3.here hexec rfl (pc0 := 5) rfl (hb hbytes d5) rfl (i0_ne_t (nz32 (by omega) l0)) (by decide) rfl ?_
    exact Steps.refl _)
  obtain ⟨T5, X5, q5, st5⟩ := X3.sget hexec hown (wk W (.fieldLink "java/lang/String" 38 "java/lang/String" "COMPACT_STRINGS" "Z")) s1 (fun _ _ h => by rw [hh3]; exact h) (g := (mkF m 27 #[.val (.ref a), .val (.ref b), .val (.int (Int32.ofNat o)), .val (.int (Int32.ofNat len)), .val .null, .unset] [])) rfl (hb hbytes d27)
  have hh5 := q5.trans hh3
  have c6 : Steps p.tables e below (s₁.setTop (entryFrame m #[.ref a, .ref b, .int (Int32.ofNat o), .int (Int32.ofNat len), .null] 6)) (T5.setTop (mkF m 30 #[.val (.ref a), .val (.ref b), .val (.int (Int32.ofNat o)), .val (.int (Int32.ofNat len)), .val .null, .unset] [.int z])) := c4.trans (st5 _ (Steps.refl _))
  have c7 : Steps p.tables e below (s₁.setTop (entryFrame m #[.ref a, .ref b, .int (Int32.ofNat o), .int (Int32.ofNat len), .null] 6)) (T5.setTop (mkF m 36 #[.val (.ref a), .val (.ref b), .val (.int (Int32.ofNat o)), .val (.int (Int32.ofNat len)), .val .null, .unset] [.int (Int32.ofNat len), .int (Int32.ofNat o), .ref b])) := c6.trans (by
    refine XS.ifNo X5.here hexec rfl (hb hbytes d30) rfl (i0_eq_f hz) ?_
    refine XS.aloadN X5.here hexec rfl (hb hbytes d33) rfl rfl ?_
    refine XS.iloadN X5.here hexec rfl (hb hbytes d34) rfl ?_
    refine XS.iloadN X5.here hexec rfl (hb hbytes d35) rfl ?_
    exact Steps.refl _)
  obtain ⟨v8, T8, X8, E8, g8⟩ := X5.callS hexec (Cmp3.law l b A o len) hown (wks W (staticW "java/lang/String" 177 Cmp3.yN)) (wk W Cmp3.tab) (W := 0) (Nat.le_of_ble_eq_true rfl) (Nat.le_of_ble_eq_true rfl) (Nat.le_refl _) (by show 0 + len ≤ len; omega) (g := (mkF m 36 #[.val (.ref a), .val (.ref b), .val (.int (Int32.ofNat o)), .val (.int (Int32.ofNat len)), .val .null, .unset] [.int (Int32.ofNat len), .int (Int32.ofNat o), .ref b])) rfl (by rw [hml]; rfl) c7 (argsL := [.ref b, .int (Int32.ofNat o), .int (Int32.ofNat len)]) (rest := []) rfl rfl (by show 2 * 0 + 0 ≤ _; decide) (hb hbytes d36) (⟨rfl, hA.mv X5.warmed.alike hh5, l1, l2, hp⟩)
  obtain ⟨e8, z8⟩ := E8
  obtain ⟨rfl, N, n1, n2, n3, n4, n5, n6⟩ := NewArr.mv _ T5 s _ _ hh5.symm (Vm.Alike.refl _) rfl e8
  rw [hh5] at z8
  have hB1 := hB.keep X8.warmed.alike (n6 _ _ hB.1)
  have hne : s.heap.size ≠ a := (Nat.ne_of_lt (Array.getElem?_eq_some_iff.mp hB.1).1).symm
  have c9 : Steps p.tables e below (s₁.setTop (entryFrame m #[.ref a, .ref b, .int (Int32.ofNat o), .int (Int32.ofNat len), .null] 6)) (T8.setTop (mkF m 39 #[.val (.ref a), .val (.ref b), .val (.int (Int32.ofNat o)), .val (.int (Int32.ofNat len)), .val .null, .unset] [.ref s.heap.size])) := g8
  have c10 : Steps p.tables e below (s₁.setTop (entryFrame m #[.ref a, .ref b, .int (Int32.ofNat o), .int (Int32.ofNat len), .null] 6)) (T8.setTop (mkF m 45 #[.val (.ref a), .val (.ref b), .val (.int (Int32.ofNat o)), .val (.int (Int32.ofNat len)), .val .null, .val (.ref s.heap.size)] [.int (Int32.ofNat N.slots.size), .ref s.heap.size, .ref a])) := by
    have hc : Steps p.tables e below (s₁.setTop (entryFrame m #[.ref a, .ref b, .int (Int32.ofNat o), .int (Int32.ofNat len), .null] 6)) (T8.setTop (mkF m 45 #[.val (.ref a), .val (.ref b), .val (.int (Int32.ofNat o)), .val (.int (Int32.ofNat len)), .val .null, .val (.ref s.heap.size)] [.int (Int32.ofNat len), .ref s.heap.size, .ref a])) := c9.trans (by
      refine XS.astore X8.here hexec rfl (hb hbytes d39) rfl rfl rfl ?_
      refine XS.aloadN X8.here hexec rfl (hb hbytes d41) rfl rfl ?_
      refine XS.aload X8.here hexec rfl (hb hbytes d42) rfl rfl ?_
      refine XS.iloadN X8.here hexec rfl (hb hbytes d44) rfl ?_
      exact Steps.refl _)
    rw [n4]; exact hc
  obtain ⟨v11, T11, X11, E11, g11⟩ := X8.callS hexec (CodL.law l s.heap.size N) hown (wks W (staticW "java/lang/String" 47 CodL.yN)) (wk W CodL.tab) (W := 1) (Nat.le_of_ble_eq_true rfl) (Nat.le_of_ble_eq_true rfl) (Nat.le_refl _) (by show 0 + len + 0 ≤ len; omega) (g := (mkF m 45 #[.val (.ref a), .val (.ref b), .val (.int (Int32.ofNat o)), .val (.int (Int32.ofNat len)), .val .null, .val (.ref s.heap.size)] [.int (Int32.ofNat N.slots.size), .ref s.heap.size, .ref a])) rfl (by rw [hml]; rfl) c10 (argsL := [.ref s.heap.size, .int (Int32.ofNat N.slots.size)]) (rest := [.ref a]) rfl rfl (by show 2 * 0 + (1 + 0) ≤ _; decide) (hb hbytes d45) (⟨rfl, n1⟩)
  obtain ⟨rfl, q11⟩ := E11
  have hB11 := hB1.mv (X8.warmed.alike.symm.trans X11.warmed.alike) q11
  have c12 : Steps p.tables e below (s₁.setTop (entryFrame m #[.ref a, .ref b, .int (Int32.ofNat o), .int (Int32.ofNat len), .null] 6)) (T11.setTop (mkF m 48 #[.val (.ref a), .val (.ref b), .val (.int (Int32.ofNat o)), .val (.int (Int32.ofNat len)), .val .null, .val (.ref s.heap.size)] [.int 0, .ref a])) := g11
  obtain ⟨T13, X13, p13, bl13, sl13, st13⟩ := X11.finit hexec hown (wk W (.fieldLink "java/lang/String" 15 "java/lang/String" "coder" "B")) (Or.inr ⟨_, (wk W (.laysFinal "java/lang/String" "java/lang/String" "coder" "B"))⟩) (Or.inl ⟨rfl, hnm⟩) f2 (Or.inl rfl) hB11 (t := .byte) (by decide +kernel) rfl (g := (mkF m 48 #[.val (.ref a), .val (.ref b), .val (.int (Int32.ofNat o)), .val (.int (Int32.ofNat len)), .val .null, .val (.ref s.heap.size)] [.int 0, .ref a])) rfl (rest := []) rfl (hb hbytes d48)
  have c14 : Steps p.tables e below (s₁.setTop (entryFrame m #[.ref a, .ref b, .int (Int32.ofNat o), .int (Int32.ofNat len), .null] 6)) (T13.setTop (mkF m 54 #[.val (.ref a), .val (.ref b), .val (.int (Int32.ofNat o)), .val (.int (Int32.ofNat len)), .val .null, .val (.ref s.heap.size)] [.ref s.heap.size, .ref a])) := (c12.trans (st13 _ (Steps.refl _))).trans (by
    refine XS.aloadN X13.here hexec rfl (hb hbytes d51) rfl rfl ?_
    refine XS.aload X13.here hexec rfl (hb hbytes d52) rfl rfl ?_
    exact Steps.refl _)
  obtain ⟨T15, X15, p15, bl15, sl15, st15⟩ := X13.finit hexec hown (wk W (.fieldLink "java/lang/String" 9 "java/lang/String" "value" "[B")) (Or.inr ⟨_, (wk W (.laysFinal "java/lang/String" "java/lang/String" "value" "[B"))⟩) (Or.inl ⟨rfl, hnm⟩) f1 (Or.inl rfl) bl13 (t := (.array .byte)) (by decide +kernel) rfl (g := (mkF m 54 #[.val (.ref a), .val (.ref b), .val (.int (Int32.ofNat o)), .val (.int (Int32.ofNat len)), .val .null, .val (.ref s.heap.size)] [.ref s.heap.size, .ref a])) rfl (rest := []) rfl (hb hbytes d54)
  have c16 : Steps p.tables e below (s₁.setTop (entryFrame m #[.ref a, .ref b, .int (Int32.ofNat o), .int (Int32.ofNat len), .null] 6)) (T15.setTop (mkF m 57 #[.val (.ref a), .val (.ref b), .val (.int (Int32.ofNat o)), .val (.int (Int32.ofNat len)), .val .null, .val (.ref s.heap.size)] [])) := c14.trans (st15 _ (Steps.refl _))
  have ap := apart (Or.inr ⟨_, (wk W (.laysFinal "java/lang/String" "java/lang/String" "value" "[B"))⟩) (Or.inr ⟨_, (wk W (.laysFinal "java/lang/String" "java/lang/String" "coder" "B"))⟩) f1 f2 (t₁ := .array .byte) (t₂ := .byte) (by decide +kernel) (by decide +kernel) (by decide)
  have al := X8.warmed.alike.symm.trans X15.warmed.alike
  have n7 : T11.heap[s.heap.size]? = some N := by rw [q11]; exact n1.1
  exact ⟨T15, none, _, _, _, X15, by simp, rfl, by omega, (fun _ => rfl), ⟨rfl, _, N, bl15, ((Same.refl D _).set _ (by simp)).set _ (by simp), sl15, (Cell.slots_setSlot_ne _ ap).trans sl13, n1.keep al (p15.other hne (p13.other hne n7)), n2, by rw [al.findClass]; exact n3, n4, n5, fun y c h1 h2 => p15.other h1 (p13.other h1 (by rw [q11]; exact n6 y c h2)), by rw [p15.2.2, p13.2.2, q11]; exact z8⟩, fun fs hl => c16.trans (X15.returnOut hexec hret (hb hbytes d57) hl)⟩
end New4
namespace New1
def yN : MethodName := ⟨"java/lang/String", "<init>", "([C)V"⟩
abbrev yB : ByteArray := jdk_42_method_3_code
theorem d0 : decode yB 0 = .ok (.aload_n 0, 1) := by decide +kernel
theorem d1 : decode yB 1 = .ok (.aload_n 1, 1) := by decide +kernel
theorem d2 : decode yB 2 = .ok (.iconst 0, 1) := by decide +kernel
theorem d3 : decode yB 3 = .ok (.aload_n 1, 1) := by decide +kernel
theorem d4 : decode yB 4 = .ok (.arraylength, 1) := by decide +kernel
theorem d5 : decode yB 5 = .ok (.aconst_null, 1) := by decide +kernel
theorem d6 : decode yB 6 = .ok (.invokespecial 27, 3) := by decide +kernel
theorem d9 : decode yB 9 = .ok (.return_, 1) := by decide +kernel
def site : List Cond := [New4.tab] ++ initW "java/lang/String" 27 New4.yN
def tab : Cond := tabOf yN yB 2 none site
def P (a : Addr) (D : Cell) (fV fC : Field) (b : Addr) (A : Cell) (z : Int32) (args : Array Value) (s : State) : Prop := args = #[.ref a, .ref b] ∧ Blank "java/lang/String" a D s ∧ Found "java/lang/String" "value" "[B" fV s ∧ Found "java/lang/String" "coder" "B" fC s ∧ Ch b A s ∧ StaticIs s "java/lang/String" "COMPACT_STRINGS" "Z" (.int z) ∧ ¬ z = 0 ∧ 0 < A.slots.size ∧ A.slots.size ≤ 536870912 ∧ ∀ i, i < A.slots.size → ¬ 255 < cv A i
def E (a : Addr) (D : Cell) (fV fC : Field) (A : Cell) (r : Option Value) (s u : State) : Prop := Got a D fV fC A 0 A.slots.size r s u
/-- new String(chars), not empty, no char above 255: a Latin-1 String of their low bytes -/
theorem law (l : Launch) (a : Addr) (D : Cell) (fV fC : Field) (b : Addr) (A : Cell) (z : Int32) : Law l yN 2 1 3 52 yB 2 none site (P a D fV fC b A z) (E a D fV fC A) [⟨a, fC.slot⟩, ⟨a, fV.slot⟩] 1 A.slots.size := by
  refine Law.of_walk (plainFor_of_name (by decide +kernel)) (by decide +kernel) (by decide +kernel) (by decide) (fun _ _ h => by rw [h.1]; rfl) (fun _ U U' hal hh h => ⟨h.1, h.2.1.mv hal hh, h.2.2.1.al hal, h.2.2.2.1.al hal, h.2.2.2.2.1.mv hal hh, h.2.2.2.2.2.1.there hal hh, h.2.2.2.2.2.2⟩) (fun r U U' V V' h1 hal h2 h => Got.mv r U U' V V' h1 hal h2 h) ?_
  intro p e s m args below meth c s₁ X0 hexec hbytes hml hret hlk hnm hown hh0 W hP
  obtain ⟨rfl, hB, f1, f2, hA, s1, hz, l0, l2, hp⟩ := hP
  have c1 : Steps p.tables e below (s₁.setTop (entryFrame m #[.ref a, .ref b] 2)) (s₁.setTop (mkF m 0 #[.val (.ref a), .val (.ref b)] [])) := entry rfl
  have c2 : Steps p.tables e below (s₁.setTop (entryFrame m #[.ref a, .ref b] 2)) (s₁.setTop (mkF m 6 #[.val (.ref a), .val (.ref b)] [.null, .int (Int32.ofNat A.slots.size), .int 0, .ref b, .ref a])) := c1.trans (by
    refine XS.aloadN X0.here hexec rfl (hb hbytes d0) rfl rfl ?_
    refine XS.aloadN X0.here hexec rfl (hb hbytes d1) rfl rfl ?_
    refine iconstV X0.here hexec rfl 0 (hb hbytes d2) (by decide) ?_
    refine XS.aloadN X0.here hexec rfl (hb hbytes d3) rfl rfl ?_
    refine X0.alen hexec (hA.1.mv X0.warmed.alike hh0) rfl rfl (hb hbytes d4) ?_
    refine XS.aconstNull X0.here hexec rfl (hb hbytes d5) ?_
    exact Steps.refl _)
  obtain ⟨v3, T3, X3, E3, g3⟩ := X0.callN hexec (New4.law l a D fV fC b A z 0 A.slots.size) rfl hown (wks W (initW "java/lang/String" 27 New4.yN)) (W New4.tab (by simp only [site, List.mem_cons, List.mem_append, true_or, or_true])) (W := 0) (Nat.le_of_ble_eq_true rfl) (Nat.le_of_ble_eq_true rfl) (Nat.le_refl _) (by show 0 + A.slots.size ≤ A.slots.size; omega) (g := (mkF m 6 #[.val (.ref a), .val (.ref b)] [.null, .int (Int32.ofNat A.slots.size), .int (Int32.ofNat 0), .ref b, .ref a])) rfl (by rw [hml]; rfl) c2 (argsL := [.ref b, .int (Int32.ofNat 0), .int (Int32.ofNat A.slots.size), .null]) (rest := []) rfl rfl (by show 2 * 0 + 0 ≤ _; decide) (hb hbytes d6) (⟨rfl, hB.mv X0.warmed.alike hh0, f1.al X0.warmed.alike, f2.al X0.warmed.alike, hA.mv X0.warmed.alike hh0, s1.there X0.warmed.alike hh0, hz, l0, by omega, l2, fun i hi => by rw [Nat.zero_add]; exact hp i hi⟩)
  have e0 := Got.mv _ s₁ s _ _ hh0.symm (Vm.Alike.refl _) rfl E3
  obtain rfl := e0.1
  have c4 : Steps p.tables e below (s₁.setTop (entryFrame m #[.ref a, .ref b] 2)) (T3.setTop (mkF m 9 #[.val (.ref a), .val (.ref b)] [])) := g3
  exact ⟨T3, none, _, _, _, X3, by simp, rfl, by omega, (fun _ => rfl), e0, fun fs hl => c4.trans (X3.returnOut hexec hret (hb hbytes d9) hl)⟩
theorem pays {l : Launch} {R : Room} {p : Program} {e : Env} {below : List Frame} {s : State} {sargs : Array Value} {len W : Nat} (a : Addr) (D : Cell) (fV fC : Field) (b : Addr) (A : Cell) (z : Int32) (htab : tab.before sargs s = true) (hfr : 4 ≤ R.frames) (hlo : W + 65 ≤ R.locals) :
    Back l R p e below s sargs yN len W (fun A₁ a₁ => A₁.cells + 1 ≤ R.cells ∧ A₁.slots + A.slots.size ≤ R.slots ∧ P a D fV fC b A z a₁ A₁.U) (fun A₁ _ v₁ B₁ => E a D fV fC A v₁ A₁.U B₁.U ∧ B₁.locs = A₁.locs ++ [⟨a, fC.slot⟩, ⟨a, fV.slot⟩] ∧ B₁.cells = A₁.cells + 1 ∧ B₁.slots = A₁.slots + A.slots.size) :=
  (law l a D fV fC b A z).pays htab hfr (by omega)
end New1
end StrChars
namespace StrChars.Road
open Jvm Sem ClassFile Op Lib Jvm.Stand Jvm.Free Jvm.Free.XT
open Jvm.Lib.Cold (StaticIs)
abbrev ST : String := "java/lang/String"
/-- every table word that New1's law asks, flat -/
abbrev words : List Jvm.Cond := [.code New1.yN New1.yB 2 none, .initialized ST, .methodLink ST 27 New4.yN, .instanceMethod New4.yN,
  .code New4.yN New4.yB 6 none, .fieldLink ST 38 ST "COMPACT_STRINGS" "Z", .laysFinal ST ST "value" "[B", .fieldLink ST 9 ST "value" "[B", .laysFinal ST ST "coder" "B", .fieldLink ST 15 ST "coder" "B",
  .methodLink ST 1 Lib.objectInit, .instanceMethod Lib.objectInit, .code Lib.objectInit ⟨#[0xb1]⟩ 1 none, .methodLink ST 177 Cmp3.yN, .static Cmp3.yN, .methodLink ST 47 CodL.yN, .static CodL.yN,
  .code Cmp3.yN Cmp3.yB 6 (some (.array .byte)), .initialized U16, .arrayClass .byte, .methodLink U16 115 Cmp5.yN, .static Cmp5.yN, .code Cmp5.yN Cmp5.yB 7 (some .int), .code CodL.yN CodL.yB 2 (some .byte)]
theorem tab_of {a : Array Value} {s : State} (h : ∀ w ∈ words, w.before a s = true) : New1.tab.before a s = true := by
  have h5 : Cmp5.tab.before a s = true := unparts (wk h (.code Cmp5.yN Cmp5.yB 7 (some .int))) (wks h (.initialized Cmp5.yN.cls :: Cmp5.site))
  have hc : CodL.tab.before a s = true := unparts (wk h (.code CodL.yN CodL.yB 2 (some .byte))) (wks h (.initialized CodL.yN.cls :: CodL.site))
  have q5 : ∀ w ∈ Cmp5.tab :: words, w.before a s = true := fun w hw => (List.mem_cons.mp hw).elim (fun e => e ▸ h5) (h w)
  have h3 : Cmp3.tab.before a s = true := unparts (wk q5 (.code Cmp3.yN Cmp3.yB 6 (some (.array .byte)))) (wks q5 (.initialized Cmp3.yN.cls :: Cmp3.site))
  have q3 : ∀ w ∈ Cmp3.tab :: CodL.tab :: words, w.before a s = true := fun w hw => (List.mem_cons.mp hw).elim (fun e => e ▸ h3) fun hw => (List.mem_cons.mp hw).elim (fun e => e ▸ hc) (h w)
  have h4 : New4.tab.before a s = true := unparts (wk q3 (.code New4.yN New4.yB 6 none)) (wks q3 (.initialized New4.yN.cls :: New4.site))
  have q4 : ∀ w ∈ New4.tab :: words, w.before a s = true := fun w hw => (List.mem_cons.mp hw).elim (fun e => e ▸ h4) (h w)
  exact unparts (wk q4 (.code New1.yN New1.yB 2 none)) (wks q4 (.initialized New1.yN.cls :: New1.site))
/-- the words ride from the start Z to the walk's own state -/
theorem moved {Z s : State} {a0 args : Array Value} (hZ : Z.Warmed39 s.vm) (hw : ∀ d ∈ words, d.before a0 Z = true) : ∀ d ∈ words, d.before args s = true := fun d hd => by
  have q := hw d hd
  have t : ∀ d ∈ words, d = .arrayClass .byte ∨ (d.onTables && d.keepsFace) = true := by decide +kernel
  rcases t d hd with rfl | t
  · exact RoadKit.mvA hZ q
  · exact RoadKit.mv hZ q t
/-- WHAT COMES BACK, over the tables of the start Z: h the heap at the call, h' behind it -/
def Q (Z : State) (x : Addr) (A : Cell) (h : Heap) (v : Option Value) (h' : Heap) (L : List Loc) : Prop := v = none ∧ (∀ y ∈ L, y.base = x) ∧ RoadKit.Keep h h' [x] ∧ h'.size = h.size + 1 ∧ RoadKit.Exa Z h' x ST ∧ RoadKit.Fld Z h' x ST "value" "[B" (.ref h.size) ∧ RoadKit.Fld Z h' x ST "coder" "B" (.int 0) ∧
  (∃ V : Cell, RoadKit.Arr Z h' h.size V .byte ∧ V.vm = .none ∧ Z.vm.findClass "[B" = some V.cls ∧ V.slots.size = A.slots.size ∧ ∀ j, j < A.slots.size → V.slots[j]? = some (.int (lo8 (cv A j)))) ∧
  ∀ (O n d : String) (w : Value), RoadKit.Fld Z h x O n d w → RoadKit.slotOf Z O n d ≠ RoadKit.slotOf Z ST "value" "[B" → RoadKit.slotOf Z O n d ≠ RoadKit.slotOf Z ST "coder" "B" → RoadKit.Fld Z h' x O n d w
/-- **new String(chars) AT A CALL, IN THE ROAD'S FORM**: for specialBack behind newO: x the fresh String, b the char[] with the cell A -/
theorem back {p : Program} {l : Launch} {e : Env} {R : Room} {s : State} {args : Array Value} {below : List Frame} {len W : Nat} {Z : State} {a0 : Array Value} {h : Heap} (hZ : Z.Warmed39 s.vm) (hw : ∀ d ∈ words, d.before a0 Z = true) {kI : Nat} (wi : (Jvm.Cond.instantiable ST kI).before a0 Z = true)
    {x b : Addr} {A : Cell} {z : Int32} {v0 c0 : Value} (E : RoadKit.Exa Z h x ST) (V : RoadKit.Fld Z h x ST "value" "[B" v0) (C : RoadKit.Fld Z h x ST "coder" "B" c0) (K : RoadKit.Arr Z h b A .char) (hty : Typed .char A) (S : RoadKit.Sta Z h ST "COMPACT_STRINGS" "Z" (.int z)) (hz : ¬ z = 0)
    (l0 : 0 < A.slots.size) (l2 : A.slots.size ≤ 536870912) (hp : ∀ i, i < A.slots.size → ¬ 255 < cv A i) (hfr : 4 ≤ R.frames) (hlo : W + 65 ≤ R.locals) :
    Back l R p e below s args New1.yN len W (fun P a => a = #[.ref x, .ref b] ∧ P.U.heap = h ∧ P.cells + 1 ≤ R.cells ∧ P.slots + A.slots.size ≤ R.slots)
      (fun P _ v B => ∃ L, Q Z x A h v B.U.heap L ∧ B.locs = P.locs ++ L ∧ B.cells = P.cells + 1 ∧ B.slots = P.slots + A.slots.size) := by
  intro m meth c P g ig mk a X hg hsize hdg hW hn hp'
  obtain ⟨rfl, rfl, r1, r2⟩ := hp'
  have al : Z.vm.Alike P.U.vm := hZ.alike.trans X.warmed.alike
  obtain ⟨D, cfV, kV, iV, fV, hD, gV, stV, knV, obV, asV, slV⟩ := id V
  obtain ⟨D', cfC, kC, iC, fC, hD', gC, stC, -, -, asC, slC⟩ := id C
  cases hD.symm.trans hD'
  obtain ⟨D2, kD, e1, e2, e3, e4, e5⟩ := id E
  cases hD.symm.trans e1
  obtain ⟨c2, k2, i1, i2, i3, -⟩ := Cond.instantiable_spec wi
  cases e2.symm.trans i1
  cases e3.symm.trans i2
  obtain ⟨kU, u1, u2⟩ := al.2.2 _ _ e3
  have hB : Blank ST x D P.U := ⟨hD, ⟨knV, fun q hq => by rw [hq] at obV; cases obV⟩, by rw [al.findClass]; exact e2, kU, u1, by rw [u2]; exact i3, by rw [u2]; exact e5 i3⟩
  have F1 : Found ST "value" "[B" fV P.U := ⟨SBG.found_only al ⟨cfV, kV, iV, gV⟩, stV⟩
  have F2 : Found ST "coder" "B" fC P.U := ⟨SBG.found_only al ⟨cfC, kC, iC, gC⟩, stC⟩
  have hA : Ch b A P.U := ⟨⟨K.1, State.isArrayOf_alike al K.2.1, K.2.2, by omega⟩, hty⟩
  have hS : StaticIs P.U ST "COMPACT_STRINGS" "Z" (.int z) := by
    obtain ⟨cfS, iS, kS, fS, st, cS, t1, t2, t3, t4, t5, t6, t7⟩ := S
    exact StaticIs.there (s := { Z with heap := P.U.heap }) ⟨cfS, iS, kS, fS, st, cS, t1, t2, t3, t4, t5, (fun q => by rw [q] at t6; cases t6), t7⟩ al rfl
  obtain ⟨v, B, X', ⟨⟨hv, E', V', q1, q2, q3, q4, q5, q6, q7, q8, q9, q10, q11⟩, hl, hc, hs⟩, st⟩ := New1.pays x D fV fC b A z (tab_of (moved hZ hw)) hfr hlo m meth c P g ig mk _ X hg hsize hdg hW hn ⟨r1, r2, rfl, hB, F1, F2, hA, hS, hz, l0, l2, hp⟩
  have al' : Z.vm.Alike B.U.vm := hZ.alike.trans X'.warmed.alike
  have hsz : E'.slots.size = D.slots.size := by
    obtain ⟨-, -, -, kB, w1, w2, w3⟩ := q1
    obtain ⟨kB', y1, y2⟩ := al'.2.2 _ _ e3
    rw [q2.2.1] at w1
    cases w1.symm.trans y1
    rw [w3, e5 i3, y2]
  refine ⟨v, B, X', ⟨_, ⟨hv, ?_, ⟨by omega, fun y cy hy hn' => q10 y cy (by simpa using hn') hy, fun y cy hy => ?_⟩, q11, ⟨E', _, q1.1, by rw [q2.2.1]; exact e2, by rw [q2.2.1]; exact e3, by rw [q2.1]; exact obV, fun _ => by rw [hsz]; exact e5 i3⟩,
    ⟨E', cfV, kV, iV, fV, q1.1, gV, stV, by rw [q2.1]; exact knV, by rw [q2.1]; exact obV, by rw [q2.2.1]; exact asV, q3⟩, ⟨E', cfC, kC, iC, fC, q1.1, gC, stC, by rw [q2.1]; exact knV, by rw [q2.1]; exact obV, by rw [q2.2.1]; exact asC, q4⟩,
    ⟨V', ⟨q5.1, State.isArrayOf_alike al'.symm q5.2.1, q5.2.2.1⟩, q6, by rw [← al'.findClass]; exact q7, q8, fun j hj => by have := q9 j hj; rwa [Nat.zero_add] at this⟩, fun O n d w F n1 n2 => ?_⟩, hl, hc, hs⟩, st⟩
  · intro y hy
    simp only [List.mem_cons, List.not_mem_nil, or_false] at hy
    rcases hy with rfl | rfl <;> rfl
  · by_cases q : y = x
    · subst q
      cases hD.symm.trans hy
      exact ⟨E', q1.1, q2.2.1, q2.1, hsz⟩
    · exact ⟨cy, q10 y cy q hy, rfl, rfl, rfl⟩
  · obtain ⟨D3, cf, k, i, f, g1, g2, g3, g4, g5, g6, g7⟩ := F
    cases hD.symm.trans g1
    simp only [RoadKit.slotOf, g2, gV, gC, Option.map_some, Option.getD_some] at n1 n2
    exact ⟨E', cf, k, i, f, q1.1, g2, g3, by rw [q2.1]; exact g4, by rw [q2.1]; exact g5, by rw [q2.2.1]; exact g6, by rw [q2.2.2 f.slot (by simp [n1, n2])]; exact g7⟩
end StrChars.Road
namespace StrChars.Road
open Jvm Sem ClassFile Op Lib Jvm.Stand Jvm.Free Jvm.Free.XT
/-- WHAT COMES BACK, the byte[] as a list of values -/
def QA (Z : State) (x : Addr) (zn : Int32) (cs : List Int32) (h : Heap) (v : Option Value) (h' : Heap) (L : List Loc) : Prop := v = none ∧ (∀ y ∈ L, y.base = x) ∧ RoadKit.Keep h h' [x] ∧ h'.size = h.size + 1 ∧ RoadKit.Exa Z h' x ST ∧ RoadKit.Fld Z h' x ST "value" "[B" (.ref h.size) ∧ RoadKit.Fld Z h' x ST "coder" "B" (.int 0) ∧
  (∃ kb, Z.vm.findClass "[B" = some kb ∧ RoadKit.Arv Z h' h.size kb .byte zn (cs.map fun c => .int (lo8 c)) (.int 0)) ∧
  ∀ (O n d : String) (w : Value), RoadKit.Fld Z h x O n d w → RoadKit.slotOf Z O n d ≠ RoadKit.slotOf Z ST "value" "[B" → RoadKit.slotOf Z O n d ≠ RoadKit.slotOf Z ST "coder" "B" → RoadKit.Fld Z h' x O n d w
/-- **new String(chars) AT A CALL, THE ARRAYS AS LISTS**: the char[] at b holds cs, not empty, no char above 255 -/
theorem backArv {p : Program} {l : Launch} {e : Env} {R : Room} {s : State} {args : Array Value} {below : List Frame} {len W : Nat} {Z : State} {a0 : Array Value} {h : Heap} (hZ : Z.Warmed39 s.vm) (hw : ∀ d ∈ words, d.before a0 Z = true) {kI : Nat} (wi : (Jvm.Cond.instantiable ST kI).before a0 Z = true)
    {x b : Addr} {k : ClassId} {zn z : Int32} {cs : List Int32} {dv v0 c0 : Value} (E : RoadKit.Exa Z h x ST) (V : RoadKit.Fld Z h x ST "value" "[B" v0) (C : RoadKit.Fld Z h x ST "coder" "B" c0) (K : RoadKit.Arv Z h b k .char zn (cs.map Value.int) dv) (S : RoadKit.Sta Z h ST "COMPACT_STRINGS" "Z" (.int z)) (hz : ¬ z = 0)
    (hlen : zn.toNatClampNeg = cs.length) (h0 : 0 < cs.length) (hbig : cs.length ≤ 536870912) (hall : ∀ c ∈ cs, ¬ 255 < c) (hfr : 4 ≤ R.frames) (hlo : W + 65 ≤ R.locals) :
    Back l R p e below s args New1.yN len W (fun P a => a = #[.ref x, .ref b] ∧ P.U.heap = h ∧ P.cells + 1 ≤ R.cells ∧ P.slots + cs.length ≤ R.slots)
      (fun P _ v B => ∃ L, QA Z x zn cs h v B.U.heap L ∧ B.locs = P.locs ++ L ∧ B.cells = P.cells + 1 ∧ B.slots = P.slots + cs.length) := by
  obtain ⟨A, K1, K2, K3, K4, K5, K6⟩ := K
  have e : A.slots.size = cs.length := K3.trans hlen
  have hat : ∀ (i : Nat) (hi : i < cs.length), A.slots[i]? = some (.int cs[i]) := fun i hi => by rw [K5 i (by omega)]; simp [List.getD_eq_getElem?_getD, hi]
  have hcv : ∀ (i : Nat) (hi : i < cs.length), cv A i = cs[i] := fun i hi => by unfold cv; rw [hat i hi]
  have hty : Typed .char A := fun i v hv => by
    have hi : i < A.slots.size := (Array.getElem?_eq_some_iff.mp hv).1
    have q := K5 i hi
    rw [hv] at q
    rw [Option.some.inj q]
    exact K6 i hi
  refine Back.mono (back hZ hw wi E V C K1 hty S hz (by omega) (by omega) (fun i hi => by rw [hcv i (by omega)]; exact hall _ (List.getElem_mem _)) hfr hlo) (fun P a hp => ⟨hp.1, hp.2.1, hp.2.2.1, by rw [e]; exact hp.2.2.2⟩) (fun P a v B hp hq => ?_)
  obtain ⟨L, ⟨q1, q2, q3, q4, q5, q6, q7, ⟨V', v1, v2, v3, v4, v5⟩, q9⟩, hl, hc, hs⟩ := hq
  refine ⟨L, ⟨q1, q2, q3, q4, q5, q6, q7, ⟨V'.cls, v3, V', v1, rfl, by rw [v4, e, hlen], K4, fun i hi => ?_, fun i hi => ?_⟩, q9⟩, hl, hc, by rw [hs, e]⟩
  · have hi' : i < cs.length := by omega
    rw [v5 i (by omega), hcv i hi']; simp [List.getD_eq_getElem?_getD, hi']
  · have hi' : i < cs.length := by omega
    simp only [List.getD_eq_getElem?_getD, List.getElem?_map, List.getElem?_eq_getElem hi', Option.map_some, Option.getD_some]
    exact fits_lo8 _
end StrChars.Road
namespace StrChars.Road
open Jvm Sem ClassFile Op Lib Jvm.Stand Jvm.Free Jvm.Free.XT
/-- WHAT COMES BACK, in the writer's own shape -/
def QV (Z : State) (x : Addr) (N : Int32) (bs : List Int32) (h : Heap) (n0 : Nat) (v : Option Value) (h' : Heap) (L : List Loc) : Prop := v = none ∧ RoadKit.Fr n0 L ∧ RoadKit.Keep h h' [x] ∧ RoadKit.Exa Z h' x ST ∧ RoadKit.Fld Z h' x ST "coder" "B" (.int 0) ∧
  ∃ (t : Addr) (kb : ClassId), n0 ≤ t ∧ h.size ≤ t ∧ ¬ t = x ∧ RoadKit.Fld Z h' x ST "value" "[B" (.ref t) ∧ RoadKit.Arv Z h' t kb .byte N (bs.map Value.int) (.int 0)
/-- **new String(chars) AT A CALL, FOR THE WRITER**: a char[] of n known ints, each 0 to 255 -/
theorem backV {p : Program} {l : Launch} {e : Env} {R : Room} {s : State} {args : Array Value} {below : List Frame} {len W : Nat} {Z : State} {a0 : Array Value} {h : Heap} (hZ : Z.Warmed39 s.vm) (hw : ∀ d ∈ words, d.before a0 Z = true) {kI : Nat} (wi : (Jvm.Cond.instantiable ST kI).before a0 Z = true)
    {x b : Addr} {kC : ClassId} {cs bs : List Int32} {d v0 c0 : Value} {z N : Int32} {n n0 : Nat} (hx0 : n0 ≤ x) (hh0 : n0 ≤ h.size) (E : RoadKit.Exa Z h x ST) (V : RoadKit.Fld Z h x ST "value" "[B" v0) (C : RoadKit.Fld Z h x ST "coder" "B" c0) (K : RoadKit.Arv Z h b kC .char N (cs.map Value.int) d) (S : RoadKit.Sta Z h ST "COMPACT_STRINGS" "Z" (.int z)) (hz : ¬ z = 0)
    (hn : cs.length = n) (hN : N = Int32.ofNat n) (l0 : 0 < n) (l2 : n ≤ 4000) (hp : ∀ c ∈ cs, ¬ c < 0 ∧ ¬ (255 : Int32) < c) (hb : bs = cs.map (fun c => c.toInt8.toInt32)) (hfr : 4 ≤ R.frames) (hlo : W + 65 ≤ R.locals) :
    Back l R p e below s args (⟨"java/lang/String", "<init>", "([C)V"⟩ : MethodName) len W (fun P a => a = #[.ref x, .ref b] ∧ P.U.heap = h ∧ P.cells + 1 ≤ R.cells ∧ P.slots + n ≤ R.slots)
      (fun P _ v B => ∃ L, QV Z x N bs h n0 v B.U.heap L ∧ B.locs = P.locs ++ L ∧ B.cells = P.cells + 1 ∧ B.slots = P.slots + n) := by
  subst hn hN hb
  refine Back.mono (backArv hZ hw wi E V C K S hz (n32 (by omega)) l0 (by omega) (fun c hc => (hp c hc).2) hfr hlo) (fun P a hp => hp) (fun P a v B hp hq => ?_)
  obtain ⟨L, ⟨q1, q2, q3, q4, q5, q6, q7, ⟨kb, v1, v2⟩, q9⟩, hl, hc, hs⟩ := hq
  exact ⟨L, ⟨q1, fun y hy => by rw [q2 y hy]; exact hx0, q3, q5, q7, h.size, kb, hh0, Nat.le_refl _, Nat.ne_of_gt E.lt, q6, by rw [List.map_map]; exact v2⟩, hl, hc, hs⟩
end StrChars.Road
end Jvm.Pilot.@@N@@
namespace Jvm.RoadKit
open Sem ClassFile Op Lib Jvm.Stand Jvm.Free Jvm.LawKit
section OwnNew
variable {p : Program} {l : Launch} {e : Env} {R : Room} {s : State} {m : MethodId} {args : Array Value} {below : List Frame} {meth : Method} {c : Code} {T : State} {locs : List Loc} {cells slots : Nat} {h : Heap}
/-- from S the run comes to an end of which Q holds -/
def OwnGo (p : Program) (e : Env) (below : List Frame) (S : State) (Q : Outcome → State → Prop) : Prop :=
  ∃ s₂ o, Steps p.tables e below S s₂ ∧ s₂.status = .running ∧ Ended s₂ below o ∧ Q o s₂
theorem own_go {S : State} {Q : Outcome → State → Prop} (k : OwnGo p e below S Q) : ∃ s₂ o, Steps p.tables e below S s₂ ∧ s₂.status = .running ∧ Ended s₂ below o ∧ Q o s₂ := k
theorem own_back {S S' : State} {Q : Outcome → State → Prop} (h : ∀ t, Steps p.tables e below S' t → Steps p.tables e below S t) (k : OwnGo p e below S' Q) : OwnGo p e below S Q := by
  obtain ⟨s2, o, h1, h2⟩ := k
  exact ⟨s2, o, h _ h1, h2⟩
theorem own_seq {S S' : State} {Q : Outcome → State → Prop} (h : Steps p.tables e below S S') (k : OwnGo p e below S' Q) : OwnGo p e below S Q := own_back (fun _ ht => h.trans ht) k
abbrev OwnEnd (s : State) (Qf : Option Value → Heap → List Loc → Prop) (C S : Nat) : Outcome → State → Prop := fun o U' => ∃ v L, o = .returned v ∧ Qf v U'.heap L ∧ FrameEnd s o U' L C S
theorem own_end (X : Stand p l e R s m args below meth c T locs cells slots) (hlocks : meth.locks = false) {v : Option Value} (hv : meth.sig.returnType = none → v = none) {S : State} {Qf : Option Value → Heap → List Loc → Prop} {C Sl : Nat} (eT : T.heap = h) (hc : cells ≤ C) (hs : slots ≤ Sl) (hq : Qf v h locs)
    (step : ∀ fs : List Frame, (∀ (f : JFrame) (acts : List Action), f.method = m → f.locked = none → f.entered = [] → (doReturn e (T.setTop f) acts v).1 = T.setFrames fs) → Steps p.tables e below S (T.setFrames fs)) : OwnGo p e below S (OwnEnd s Qf C Sl) := by
  obtain ⟨fs, hr, hrun, hended, hW, hsame⟩ := X.leave (v := v) hv hlocks
  refine ⟨_, _, step fs hr, hrun, hended, v, locs, rfl, ?_, ⟨_, rfl⟩, hW, hsame.mono hc hs⟩
  show Qf v T.heap locs
  rw [eT]; exact hq
theorem own_hat {T : State} {h : Heap} {a : Addr} {c : Cell} (e : T.heap = h) (q : h[a]? = some c) : T.heap[a]? = some c := by rw [e]; exact q
theorem own_hle {T : State} {h : Heap} {k : Nat} (e : T.heap = h) (q : k ≤ h.size) : k ≤ T.heap.size := by rw [e]; exact q
theorem own_backN {Z : State} {a0 : Array Value} {y : MethodName} {bytes : ByteArray} {maxL : Nat} {ret : Option FieldType} {rm : Room} {len W : Nat} {as' : Array Value} {Q : Option Value → Heap → List Loc → Prop}
    (hM : MetFree l y (head1 [Cond.code y bytes maxL ret] rm) (fun a U => a = as' ∧ Z.Warmed39 U.vm ∧ U.heap = h) (fun _ _ _ _ _ => True) (fun _ U o U' => OwnEnd U Q rm.cells rm.slots o U'))
    (hZ : Z.Warmed39 s.vm) (wc : (Cond.code y bytes maxL ret).before a0 Z = true) (wz : (Cond.initialized y.cls).before a0 Z = true) (hf : rm.frames + 1 ≤ R.frames) (hl : W + (maxL + 11) + rm.locals ≤ R.locals) :
    Back l R p e below s args y len W (fun A a => a = as' ∧ A.U.heap = h ∧ A.cells + rm.cells ≤ R.cells ∧ A.slots + rm.slots ≤ R.slots)
      (fun A _ v B => ∃ L, Q v B.U.heap L ∧ B.locs = A.locs ++ L ∧ B.cells = A.cells + rm.cells ∧ B.slots = A.slots + rm.slots) := backOf (Q := Q) hM hZ wc wz hf hl
theorem own_retN (X : Stand p l e R s m args below meth c T locs cells slots) (hx : p.tables.exec = Jvm.exec) (hlocks : meth.locks = false) {pc : Nat} {Ls : Array Slot} {z : Int32} {t : FieldType} {rest : List Value} (hret : meth.sig.returnType = some t) (ht : t = .boolean ∨ t = .byte ∨ t = .char ∨ t = .short) (hn : nar t z = z)
    (hd : decode c.code pc = .ok (.ireturn, 1)) {Qf : Option Value → Heap → List Loc → Prop} {C Sl : Nat} (eT : T.heap = h) (hc : cells ≤ C) (hs : slots ≤ Sl) (hq : Qf (some (.int z)) h locs) : OwnGo p e below (T.setTop (mkF m pc Ls (.int z :: rest))) (OwnEnd s Qf C Sl) :=
  own_end X hlocks (fun h => by rw [hret] at h; cases h) eT hc hs hq fun fs hr => retN X hx hret ht hd (by rw [hn]; exact hr)
theorem own_retI (X : Stand p l e R s m args below meth c T locs cells slots) (hx : p.tables.exec = Jvm.exec) (hlocks : meth.locks = false) {pc : Nat} {Ls : Array Slot} {z : Int32} {rest : List Value} (hret : meth.sig.returnType = some .int)
    (hd : decode c.code pc = .ok (.ireturn, 1)) {Qf : Option Value → Heap → List Loc → Prop} {C Sl : Nat} (eT : T.heap = h) (hc : cells ≤ C) (hs : slots ≤ Sl) (hq : Qf (some (.int z)) h locs) : OwnGo p e below (T.setTop (mkF m pc Ls (.int z :: rest))) (OwnEnd s Qf C Sl) :=
  own_end X hlocks (fun h => by rw [hret] at h; cases h) eT hc hs hq fun fs hr => retOut X hx hret rfl (Or.inl ⟨rfl, Or.inl rfl, z, rfl⟩) hd hr
theorem own_retJ (X : Stand p l e R s m args below meth c T locs cells slots) (hx : p.tables.exec = Jvm.exec) (hlocks : meth.locks = false) {pc : Nat} {Ls : Array Slot} {z : Int64} {rest : List Value} (hret : meth.sig.returnType = some .long)
    (hd : decode c.code pc = .ok (.lreturn, 1)) {Qf : Option Value → Heap → List Loc → Prop} {C Sl : Nat} (eT : T.heap = h) (hc : cells ≤ C) (hs : slots ≤ Sl) (hq : Qf (some (.long z)) h locs) : OwnGo p e below (T.setTop (mkF m pc Ls (.long z :: rest))) (OwnEnd s Qf C Sl) :=
  own_end X hlocks (fun h => by rw [hret] at h; cases h) eT hc hs hq fun fs hr => retOut X hx hret rfl (Or.inr (Or.inl ⟨rfl, rfl, z, rfl⟩)) hd hr
theorem own_narA {t : FieldType} {w : Value} (h : w.isRef = true) : narrow t w = w := by
  rcases ref_cases h with rfl | ⟨a, rfl⟩ <;> cases t <;> rfl
theorem own_retA (X : Stand p l e R s m args below meth c T locs cells slots) (hx : p.tables.exec = Jvm.exec) (hlocks : meth.locks = false) {pc : Nat} {Ls : Array Slot} {w : Value} {t : FieldType} {rest : List Value} (hret : meth.sig.returnType = some t) (ht : t.isReference = true) (hw : w.isRef = true)
    (hd : decode c.code pc = .ok (.areturn, 1)) {Qf : Option Value → Heap → List Loc → Prop} {C Sl : Nat} (eT : T.heap = h) (hc : cells ≤ C) (hs : slots ≤ Sl) (hq : Qf (some w) h locs) : OwnGo p e below (T.setTop (mkF m pc Ls (w :: rest))) (OwnEnd s Qf C Sl) :=
  own_end X hlocks (fun h => by rw [hret] at h; cases h) eT hc hs hq fun fs hr => retOut X hx hret (own_narA hw) (Or.inr (Or.inr (Or.inr (Or.inr ⟨rfl, ht, hw⟩)))) hd hr
theorem own_retV (X : Stand p l e R s m args below meth c T locs cells slots) (hx : p.tables.exec = Jvm.exec) (hlocks : meth.locks = false) {pc : Nat} {Ls : Array Slot} (hret : meth.sig.returnType = none)
    (hd : decode c.code pc = .ok (.return_, 1)) {Qf : Option Value → Heap → List Loc → Prop} {C Sl : Nat} (eT : T.heap = h) (hc : cells ≤ C) (hs : slots ≤ Sl) (hq : Qf none h locs) : OwnGo p e below (T.setTop (mkF m pc Ls [])) (OwnEnd s Qf C Sl) :=
  own_end X hlocks (fun _ => rfl) eT hc hs hq fun fs hr => X.returnOut hx hret hd hr
end OwnNew
section OwnTerms
variable {args : Array Value} {first s : State} {o : Option Outcome} {idx : List Nat} {t u : Term}
theorem own_eqint {k : Int32} (h : (Cond.eq t (.int k)).value args first o s idx = some true) : t.eval args first o idx s = some (.int k) := by
  cases ha : t.eval args first o idx s with
  | none => simp [Cond.value, ha] at h
  | some x =>
    have hb : (Term.int k).eval args first o idx s = some (.int k) := Term.int_eval k
    cases x <;> simp [Cond.value, ha, hb, Value.isRef] at h ⊢
    exact h
theorem own_eqref {w : Addr} (hu : u.eval args first o idx s = some (.ref w)) (h : (Cond.eq t u).value args first o s idx = some true) : t.eval args first o idx s = some (.ref w) := by
  cases ha : t.eval args first o idx s with
  | none => simp [Cond.value, ha] at h
  | some x =>
    cases x <;> simp [Cond.value, ha, hu, Value.isRef] at h ⊢
    exact h
end OwnTerms
section OwnArr
variable {s : State} {args : Array Value} {t u : Term} {a : Addr} {c : Cell} {ty : FieldType}
theorem own_nat32 {n : Nat} (h : n < 2 ^ 31) : n.toInt32.toNatClampNeg = n := by
  have e : n.toInt32.toInt = n := Int32.toInt_ofNat_of_lt h
  have := nat_of (j := n.toInt32) (by rw [Int32.lt_iff_toInt_lt, e]; have z : (0 : Int32).toInt = 0 := rfl; omega)
  omega
theorem own_len {n : Int32} (A : Arr s s.heap a c ty) (et : t.eval args s none [] s = some (.ref a)) (h : (Cond.eq (.length t) (.int n)).value args s none s [] = some true) {k : Nat} (hk : n.toNatClampNeg = k := by rfl) : c.slots.size = k := by
  have e := own_eqint h
  have ha : s.arrayAt? a = some c := IntBox.arrayAt_of A.1 A.2.1 A.2.2
  by_cases hl : c.slots.size < 2 ^ 31
  · rw [len_f et ha hl] at e
    have e2 : c.slots.size.toInt32 = n := by injection e with e; injection e
    rw [← hk, ← e2]
    exact (own_nat32 hl).symm
  · simp [Term.eval, et, ha, hl] at e
theorem own_elem {j k : Int32} (A : Arr s s.heap a c ty) (et : t.eval args s none [] s = some (.ref a)) (h : (Cond.eq (.elem t (.int j)) (.int k)).value args s none s [] = some true) (hj : ¬ j < 0) : c.slots[j.toNatClampNeg]? = some (.int k) := by
  have e := own_eqint h
  have ha : s.arrayAt? a = some c := IntBox.arrayAt_of A.1 A.2.1 A.2.2
  rw [elem_f et (Term.int_eval j) ha hj] at e
  exact e
theorem own_elemR {j : Int32} {w : Addr} (A : Arr s s.heap a c ty) (et : t.eval args s none [] s = some (.ref a)) (hu : u.eval args s none [] s = some (.ref w)) (h : (Cond.eq (.elem t (.int j)) u).value args s none s [] = some true) (hj : ¬ j < 0) : c.slots[j.toNatClampNeg]? = some (.ref w) := by
  have e := own_eqref hu h
  have ha : s.arrayAt? a = some c := IntBox.arrayAt_of A.1 A.2.1 A.2.2
  rw [elem_f et (Term.int_eval j) ha hj] at e
  exact e
end OwnArr
section OwnMore
variable {Z : State} {h h' : Heap}
theorem own_arr_ne {a b : Addr} {c d : Cell} {t u : FieldType} (A : Arr Z h a c t) (B : Arr Z h b d u) (q : t ≠ u) : a ≠ b := fun e => by
  subst e
  cases A.1.symm.trans B.1
  obtain ⟨-, k1, h1, cp1, h2⟩ := A.2.1
  obtain ⟨-, k2, h3, cp2, h4⟩ := B.2.1
  cases h1.symm.trans h3
  rw [h2] at h4
  injection h4 with _ h5
  exact q h5
theorem own_arv_ne {a b : Addr} {k k' : ClassId} {t u : FieldType} {z z' : Int32} {vs vs' : List Value} {d d' : Value} (A : Arv Z h a k t z vs d) (B : Arv Z h b k' u z' vs' d') (q : t ≠ u) : a ≠ b := by
  obtain ⟨c, A, -⟩ := A
  obtain ⟨c', B, -⟩ := B
  exact own_arr_ne A B q
theorem own_ext (K : Keep h h' []) : Ext h h' := ⟨K.1, fun x c q => K.2.1 x c q nin0⟩
theorem own_fitA {t : FieldType} {w : Value} (hw : w.isRef = true) (ht : t.isReference = true := by rfl) : fits t w = true := by
  rcases ref_cases hw with rfl | ⟨a, rfl⟩ <;> cases t <;> first | rfl | cases ht
end OwnMore
section OwnRem
variable {p : Program} {l : Launch} {e : Env} {R : Room} {s : State} {m : MethodId} {args : Array Value} {below : List Frame} {meth : Method} {c : Code} {T : State} {locs : List Loc} {cells slots : Nat}
theorem own_lrem {g : JFrame} {target : State} (X : Stand p l e R s m args below meth c T locs cells slots) (hx : p.tables.exec = Jvm.exec) (hg : g.method = m) {x y : Int64} {rest : List Value} (hd : decode c.code g.pc = .ok (.lrem, 1)) (hs : g.stack = .long y :: .long x :: rest) (hy : y ≠ 0)
    (hr : Steps p.tables e below (T.setTop { g with pc := g.pc + 1, stack := .long (x % y) :: rest }) target) : Steps p.tables e below (T.setTop g) target :=
  XS.lrem X.here hx hg hd hs hy (by rw [lrem_mod]; exact hr)
end OwnRem
end Jvm.RoadKit
namespace Jvm.RoadKit
open Sem ClassFile Op Lib Bundle Jvm.Stand Jvm.Free Jvm.LawKit Jvm.Free.SB Jvm.Free.SBG
section OwnWide
variable {p : Program} {l : Launch} {e : Env} {R : Room} {s : State} {m : MethodId} {args : Array Value} {below : List Frame} {meth : Method} {c : Code} {T : State} {locs : List Loc} {cells slots : Nat} {h h0 : Heap} {Z : State} {a0 : Array Value} {EL : List (String × Nat)} {vm0 : Vm} {k0 : Nat}
abbrev OwnEndW (Z : State) (EL : List (String × Nat)) (s : State) (Qf : Option Value → Heap → List Loc → Prop) (C S : Nat) : Outcome → State → Prop := fun o U' => ∃ v L, o = .returned v ∧ Qf v U'.heap L ∧ CHr Z EL s.vm s.heap U'.vm U'.heap ∧ ReturnedEndW s o U' L C S
theorem own_endW (X : Stand p l e R (s.setVm vm0) m args below meth c T locs cells slots) (hlocks : meth.locks = false) {v : Option Value} (hv : meth.sig.returnType = none → v = none) {S : State} {Qf : Option Value → Heap → List Loc → Prop} {C Sl : Nat}
    (hS : s.Since vm0 k0) (hk : k0 ≤ h.size) (hZ : Z.Warmed39 (s.setVm vm0).vm) (hEL : EW Z a0 EL) (CR : CHr Z EL s.vm s.heap vm0 h) (eT : T.heap = h) (hc : cells ≤ C) (hs : slots ≤ Sl) (hq : Qf v h locs)
    (step : ∀ fs : List Frame, (∀ (f : JFrame) (acts : List Action), f.method = m → f.locked = none → f.entered = [] → (doReturn e (T.setTop f) acts v).1 = T.setFrames fs) → Steps p.tables e below S (T.setFrames fs)) : OwnGo p e below S (OwnEndW Z EL s Qf C Sl) := by
  obtain ⟨fs, hr, hrun, hended, hw1, hw2, hw3, hw4⟩ := X.leaveW (v := v) hS (by rw [eT]; exact hk) hv hlocks
  refine ⟨_, _, step fs hr, hrun, hended, v, locs, rfl, ?_, ?_, hw1, hw2, hw3, hw4.mono hc hs⟩
  · show Qf v T.heap locs
    rw [eT]; exact hq
  · show CHr Z EL s.vm s.heap T.vm T.heap
    rw [eT]; exact CR.trans (CHv.at X hZ hEL CR.1)
theorem own_retNW (X : Stand p l e R (s.setVm vm0) m args below meth c T locs cells slots) (hx : p.tables.exec = Jvm.exec) (hlocks : meth.locks = false) {pc : Nat} {Ls : Array Slot} {z : Int32} {t : FieldType} {rest : List Value} (hret : meth.sig.returnType = some t) (ht : t = .boolean ∨ t = .byte ∨ t = .char ∨ t = .short) (hn : nar t z = z)
    (hS : s.Since vm0 k0) (hk : k0 ≤ h.size) (hZ : Z.Warmed39 (s.setVm vm0).vm) (hEL : EW Z a0 EL) (CR : CHr Z EL s.vm s.heap vm0 h)
    (hd : decode c.code pc = .ok (.ireturn, 1)) {Qf : Option Value → Heap → List Loc → Prop} {C Sl : Nat} (eT : T.heap = h) (hc : cells ≤ C) (hs : slots ≤ Sl) (hq : Qf (some (.int z)) h locs) : OwnGo p e below (T.setTop (mkF m pc Ls (.int z :: rest))) (OwnEndW Z EL s Qf C Sl) :=
  own_endW X hlocks (fun h => by rw [hret] at h; cases h) hS hk hZ hEL CR eT hc hs hq fun fs hr => retN X hx hret ht hd (by rw [hn]; exact hr)
theorem own_retIW (X : Stand p l e R (s.setVm vm0) m args below meth c T locs cells slots) (hx : p.tables.exec = Jvm.exec) (hlocks : meth.locks = false) {pc : Nat} {Ls : Array Slot} {z : Int32} {rest : List Value} (hret : meth.sig.returnType = some .int)
    (hS : s.Since vm0 k0) (hk : k0 ≤ h.size) (hZ : Z.Warmed39 (s.setVm vm0).vm) (hEL : EW Z a0 EL) (CR : CHr Z EL s.vm s.heap vm0 h)
    (hd : decode c.code pc = .ok (.ireturn, 1)) {Qf : Option Value → Heap → List Loc → Prop} {C Sl : Nat} (eT : T.heap = h) (hc : cells ≤ C) (hs : slots ≤ Sl) (hq : Qf (some (.int z)) h locs) : OwnGo p e below (T.setTop (mkF m pc Ls (.int z :: rest))) (OwnEndW Z EL s Qf C Sl) :=
  own_endW X hlocks (fun h => by rw [hret] at h; cases h) hS hk hZ hEL CR eT hc hs hq fun fs hr => retOut X hx hret rfl (Or.inl ⟨rfl, Or.inl rfl, z, rfl⟩) hd hr
theorem own_retJW (X : Stand p l e R (s.setVm vm0) m args below meth c T locs cells slots) (hx : p.tables.exec = Jvm.exec) (hlocks : meth.locks = false) {pc : Nat} {Ls : Array Slot} {z : Int64} {rest : List Value} (hret : meth.sig.returnType = some .long)
    (hS : s.Since vm0 k0) (hk : k0 ≤ h.size) (hZ : Z.Warmed39 (s.setVm vm0).vm) (hEL : EW Z a0 EL) (CR : CHr Z EL s.vm s.heap vm0 h)
    (hd : decode c.code pc = .ok (.lreturn, 1)) {Qf : Option Value → Heap → List Loc → Prop} {C Sl : Nat} (eT : T.heap = h) (hc : cells ≤ C) (hs : slots ≤ Sl) (hq : Qf (some (.long z)) h locs) : OwnGo p e below (T.setTop (mkF m pc Ls (.long z :: rest))) (OwnEndW Z EL s Qf C Sl) :=
  own_endW X hlocks (fun h => by rw [hret] at h; cases h) hS hk hZ hEL CR eT hc hs hq fun fs hr => retOut X hx hret rfl (Or.inr (Or.inl ⟨rfl, rfl, z, rfl⟩)) hd hr
theorem own_retAW (X : Stand p l e R (s.setVm vm0) m args below meth c T locs cells slots) (hx : p.tables.exec = Jvm.exec) (hlocks : meth.locks = false) {pc : Nat} {Ls : Array Slot} {w : Value} {t : FieldType} {rest : List Value} (hret : meth.sig.returnType = some t) (ht : t.isReference = true) (hw : w.isRef = true)
    (hS : s.Since vm0 k0) (hk : k0 ≤ h.size) (hZ : Z.Warmed39 (s.setVm vm0).vm) (hEL : EW Z a0 EL) (CR : CHr Z EL s.vm s.heap vm0 h)
    (hd : decode c.code pc = .ok (.areturn, 1)) {Qf : Option Value → Heap → List Loc → Prop} {C Sl : Nat} (eT : T.heap = h) (hc : cells ≤ C) (hs : slots ≤ Sl) (hq : Qf (some w) h locs) : OwnGo p e below (T.setTop (mkF m pc Ls (w :: rest))) (OwnEndW Z EL s Qf C Sl) :=
  own_endW X hlocks (fun h => by rw [hret] at h; cases h) hS hk hZ hEL CR eT hc hs hq fun fs hr => retOut X hx hret (own_narA hw) (Or.inr (Or.inr (Or.inr (Or.inr ⟨rfl, ht, hw⟩)))) hd hr
theorem own_retVW (X : Stand p l e R (s.setVm vm0) m args below meth c T locs cells slots) (hx : p.tables.exec = Jvm.exec) (hlocks : meth.locks = false) {pc : Nat} {Ls : Array Slot} (hret : meth.sig.returnType = none)
    (hS : s.Since vm0 k0) (hk : k0 ≤ h.size) (hZ : Z.Warmed39 (s.setVm vm0).vm) (hEL : EW Z a0 EL) (CR : CHr Z EL s.vm s.heap vm0 h)
    (hd : decode c.code pc = .ok (.return_, 1)) {Qf : Option Value → Heap → List Loc → Prop} {C Sl : Nat} (eT : T.heap = h) (hc : cells ≤ C) (hs : slots ≤ Sl) (hq : Qf none h locs) : OwnGo p e below (T.setTop (mkF m pc Ls [])) (OwnEndW Z EL s Qf C Sl) :=
  own_endW X hlocks (fun _ => rfl) hS hk hZ hEL CR eT hc hs hq fun fs hr => X.returnOut hx hret hd hr
/-- a callee that may intern and keeps the invariant; the cells SL are no booked Strings' -/
theorem own_backH {y : MethodName} {bytes : ByteArray} {maxL : Nat} {ret : Option FieldType} {rm : Room} {len W : Nat} {as' : Array Value} {Q : Option Value → Heap → List Loc → Prop} {SL : List Addr}
    (hM : MetFree l y (head1 [Cond.code y bytes maxL ret] rm) (fun a U => a = as' ∧ Z.Warmed39 U.vm ∧ U.heap = h ∧ CHv Z EL U.vm h ∧ ∀ x ∈ SL, Safe Z EL U.vm h x) (fun _ _ _ _ _ => True) (fun _ U o U' => OwnEndW Z EL U Q rm.cells rm.slots o U'))
    (hZ : Z.Warmed39 (s.setVm vm0).vm) (wc : (Cond.code y bytes maxL ret).before a0 Z = true) (wz : (Cond.initialized y.cls).before a0 Z = true) (hf : rm.frames + 1 ≤ R.frames) (hl : W + (maxL + 11) + rm.locals ≤ R.locals) (hEL : EW Z a0 EL) (H : CHv Z EL vm0 h) (hsf : ∀ x ∈ SL, Safe Z EL vm0 h x) (hlt : ∀ x ∈ SL, x < h.size) :
    BackS l R p e below (s.setVm vm0) args y len W (fun A a => a = as' ∧ A.U.heap = h ∧ A.cells + rm.cells ≤ R.cells ∧ A.slots + rm.slots ≤ R.slots)
      (fun A _ v B => ∃ L, Q v B.U.heap L ∧ B.locs = A.locs ++ L ∧ B.cells = A.cells + rm.cells ∧ B.slots = A.slots + rm.slots ∧ CHr Z EL vm0 h B.U.vm B.U.heap) :=
  have hZ' : Z.Warmed39 vm0 := hZ
  BackS.of_freeW (bytes := bytes) (maxL := maxL) (ret := ret) (E := fun _ first o t L k n => k = rm.cells ∧ n = rm.slots ∧ (∃ v, o = .returned v ∧ Q v t.heap L) ∧ CHr Z EL first.vm first.heap t.vm t.heap) hM hf hl
    (fun m meth c A a Y hp => have hU : Z.Warmed39 A.U.vm := wtrans (s := s.setVm vm0) hZ' Y.warmed
      ⟨by show (Cond.and _ .tt).before a A.U = true; rw [Cond.before_and, mv hU wc]; rfl, mv hU wc, mv hU wz, hp.2.2.1, hp.2.2.2⟩)
    (fun m meth c A a g mk Y hp => ⟨hp.1, wtrans (s := s.setVm vm0) hZ' Y.warmed, hp.2.1, (CHv.at Y hZ' hEL H).1, fun x hx => (CHv.at Y hZ' hEL H).safe (hlt x hx) (hsf x hx)⟩) (fun _ _ _ _ _ _ _ _ _ => trivial)
    (fun _ _ _ _ ⟨v, L, h1, h2, h3, h4⟩ => ⟨L, _, _, h4, rfl, rfl, ⟨v, h1, h2⟩, h3⟩)
    (fun m meth c A a g mk v t L k n Y hp _ _ ⟨e1, e2, ⟨v', e3, e4⟩, e5⟩ => by
      cases e3; subst e1 e2
      refine ⟨L, e4, rfl, rfl, rfl, (CHv.at Y hZ' hEL H).trans ?_⟩
      rw [← hp.2.1]; exact e5)
/-- where a wide walk stands: all that its steps ask, bundled -/
def OwnSt (p : Program) (l : Launch) (e : Env) (R : Room) (s : State) (m : MethodId) (args : Array Value) (below : List Frame) (meth : Method) (c : Code) (Z : State) (EL : List (String × Nat)) (own : String) (n0 : Nat) (h0 : Heap) (ws : List Addr) (T : State) (h : Heap) (cells slots : Nat) : Prop :=
  ∃ (vm0 : Vm) (k0 : Nat) (locs : List Loc), Stand p l e R (s.setVm vm0) m args below meth c T locs cells slots ∧ T.heap = h ∧ s.Since vm0 k0 ∧ k0 ≤ h.size ∧ Z.Warmed39 (s.setVm vm0).vm ∧ (s.setVm vm0).vm.findClass own = some m.cls ∧ CHr Z EL s.vm h0 vm0 h ∧ Old Z n0 h ∧ Keep h0 h ws ∧ n0 ≤ h.size ∧ Fr n0 locs
end OwnWide
end Jvm.RoadKit
namespace Jvm.Pilot.@@N@@
open Jvm Jvm.ClassFile Sem Op Lib Jvm.Free Jvm.Stand Jvm.LawKit Jvm.RoadKit Bundle Jvm.Pilot.@@N@@.Jvm.D
abbrev own_EL : List (String × Nat) := consts_1
theorem own_EW {Z : State} {a0 : Array Value} (hw : ∀ d ∈ tables_1, d.before a0 Z = true) : EW Z a0 own_EL := (EW.cons (hw _ (List.mem_of_getElem? (i := 18) rfl)) (by decide +kernel) EW.nil)
theorem own_wS {Z : State} {a0 : Array Value} (hw : ∀ d ∈ tables_1, d.before a0 Z = true) : ∀ a ∈ Bundle.stringAtoms, a.before a0 Z = true := fun d hd => hw d ((by decide +kernel : ∀ d ∈ Bundle.stringAtoms, d ∈ tables_1) d hd)

/-- a is an ordinary Latin-1 String whose bytes are bs -/
def OwnStr (Z : State) (h : Heap) (a : Addr) (bs : List Int32) : Prop := ∃ (t : Addr) (k : ClassId), Exa Z h a "java/lang/String" ∧ Fld Z h a "java/lang/String" "coder" "B" (.int 0) ∧ Fld Z h a "java/lang/String" "value" "[B" (.ref t) ∧ Arv Z h t k .byte (Int32.ofNat bs.length) (bs.map Value.int) (.int 0) ∧ bs.length ≤ 4000
theorem OwnStr.ext {Z : State} {h h' : Heap} {a : Addr} {bs : List Int32} (E : Ext h h') (F : OwnStr Z h a bs) : OwnStr Z h' a bs := by
  obtain ⟨t, k, h1, h2, h3, h4, h5⟩ := F
  exact ⟨t, k, h1.ext E, h2.ext E, h3.ext E, h4.ext E, h5⟩
theorem OwnStr.exa {Z : State} {h : Heap} {a : Addr} {bs : List Int32} (F : OwnStr Z h a bs) : Exa Z h a "java/lang/String" := by
  obtain ⟨t, k, h1, h2, h3, h4, h5⟩ := F
  exact h1
theorem own_exaarv {Z : State} {h : Heap} {t w : Addr} {C : String} {k : ClassId} {ty : FieldType} {z : Int32} {vs : List Value} {d : Value} {a0 : Array Value} {n : Nat} (A : Arv Z h t k ty z vs d) (E : Exa Z h w C) (wi : (Cond.instantiable C n).before a0 Z = true) : t ≠ w := Ne.symm (Exa.neArv E A wi)
theorem OwnStr.wrA {Z : State} {h h' : Heap} {a w : Addr} {bs : List Int32} {sl : Nat} {v : Value} {k : ClassId} {ty : FieldType} {z : Int32} {vs : List Value} {d : Value} {a0 : Array Value} {n : Nat} (W : Wr h h' w sl v) (A : Arv Z h w k ty z vs d) (q : ty ≠ .byte) (wi : (Cond.instantiable "java/lang/String" n).before a0 Z = true) (F : OwnStr Z h a bs) : OwnStr Z h' a bs := by
  obtain ⟨t, k', h1, h2, h3, h4, h5⟩ := F
  have n1 : a ≠ w := Exa.neArv h1 A wi
  have n2 : t ≠ w := Ne.symm (own_arv_ne A h4 q)
  exact ⟨t, k', h1.wr W, h2.other W (Or.inl n1), h3.other W (Or.inl n1), h4.other W n2, h5⟩
theorem OwnStr.wrE {Z : State} {h h' : Heap} {a w : Addr} {bs : List Int32} {sl : Nat} {v : Value} {C : String} {a0 : Array Value} {n : Nat} (W : Wr h h' w sl v) (E : Exa Z h w C) (q : C ≠ "java/lang/String") (wi : (Cond.instantiable C n).before a0 Z = true) (F : OwnStr Z h a bs) : OwnStr Z h' a bs := by
  obtain ⟨t, k', h1, h2, h3, h4, h5⟩ := F
  have n1 : a ≠ w := Exa.ne h1 E (Ne.symm q)
  have n2 : t ≠ w := own_exaarv h4 E wi
  exact ⟨t, k', h1.wr W, h2.other W (Or.inl n1), h3.other W (Or.inl n1), h4.other W n2, h5⟩
theorem OwnStr.keepE {Z : State} {h h' : Heap} {a w : Addr} {bs : List Int32} {C : String} {a0 : Array Value} {n : Nat} (K : Keep h h' [w]) (E : Exa Z h w C) (q : C ≠ "java/lang/String") (wi : (Cond.instantiable C n).before a0 Z = true) (F : OwnStr Z h a bs) : OwnStr Z h' a bs := by
  obtain ⟨t, k', h1, h2, h3, h4, h5⟩ := F
  have n1 : a ≠ w := Exa.ne h1 E (Ne.symm q)
  have n2 : t ≠ w := own_exaarv h4 E wi
  exact ⟨t, k', h1.keep K, h2.keep K (ninS n1 nin0), h3.keep K (ninS n1 nin0), h4.keep K (ninS n2 nin0), h5⟩
theorem own_i32 {n : Nat} (h : n < 2 ^ 31) : (Int32.ofNat n).toInt = n := Int32.toInt_ofNat_of_lt h
theorem own_nn {n : Nat} (h : n < 2 ^ 31) : ¬ Int32.ofNat n < 0 := by
  rw [Int32.lt_iff_toInt_lt, own_i32 h]
  have z : (0 : Int32).toInt = 0 := rfl
  omega
theorem own_clamp {n : Nat} (h : n < 2 ^ 31) : (Int32.ofNat n).toNatClampNeg = n := by
  have := nat_of (own_nn h)
  rw [own_i32 h] at this
  omega
theorem own_lti {i n : Nat} (h : n < 2 ^ 31) (hi : i < n) : Int32.ofNat i < Int32.ofNat n := by
  rw [Int32.lt_iff_toInt_lt, own_i32 h, own_i32 (Nat.lt_trans hi h)]
  omega
theorem own_eqi {i n : Nat} (hi : i < 2 ^ 31) (h : n < 2 ^ 31) (e : Int32.ofNat i = Int32.ofNat n) : i = n := by
  have := congrArg Int32.toInt e
  rw [own_i32 h, own_i32 hi] at this
  omega
theorem own_suci (i : Nat) : Int32.ofNat i + (1 : Int32) = Int32.ofNat (i + 1) := (Int32.ofNat_add i 1).symm
theorem own_mapget (bs : List Int32) (i : Nat) (hi : i < 2 ^ 31) : (bs.map Value.int).getD (Int32.ofNat i).toNatClampNeg (.int 0) = .int (bs.getD i 0) := by
  rw [own_clamp hi]
  simp only [List.getD_eq_getElem?_getD, List.getElem?_map]
  cases bs[i]? <;> rfl
theorem own_exteq {bs ds : List Int32} (hl : bs.length = ds.length) (h : ∀ j, j < bs.length → bs.getD j 0 = ds.getD j 0) : bs = ds := by
  apply List.ext_getElem hl
  intro i h1 h2
  have := h i h1
  simpa [List.getD_eq_getElem?_getD, h1, h2] using this

abbrev own_b (y : Int32) : Int32 := (nar .char y).toInt8.toInt32
theorem own_c255 (x : Int32) : ¬ nar .char ((x &&& (255 : Int32)).toUInt32.toUInt16.toUInt32.toInt32) < 0 ∧ ¬ (255 : Int32) < nar .char ((x &&& (255 : Int32)).toUInt32.toUInt16.toUInt32.toInt32) := by
  have e1 : nar .char ((x &&& (255 : Int32)).toUInt32.toUInt16.toUInt32.toInt32) = x &&& 255 := by
    show ((x &&& (255 : Int32)).toUInt32.toUInt16.toUInt32.toInt32).toUInt32.toUInt16.toUInt32.toInt32 = _
    rw [i2c_mask, i2c_mask]
  rw [e1]
  have h := c_and x 255 (by decide)
  have z : (0 : Int32).toInt = 0 := rfl
  have z2 : (255 : Int32).toInt = 255 := rfl
  constructor <;> rw [Int32.lt_iff_toInt_lt] <;> omega
theorem own_all0 {P : Int32 → Prop} : ∀ x ∈ ([] : List Int32), P x := fun _ q => nomatch q
theorem own_allS {P : Int32 → Prop} {y : Int32} {L : List Int32} (q : P y) (r : ∀ x ∈ L, P x) : ∀ x ∈ y :: L, P x := fun x z => (List.mem_cons.mp z).elim (fun u => u ▸ q) (r x)
theorem own_wV {Z : State} {a0 : Array Value} (hw : ∀ d ∈ tables_1, d.before a0 Z = true) : ∀ d ∈ StrChars.Road.words, d.before a0 Z = true := fun d hd => hw d ((by decide +kernel : ∀ d ∈ StrChars.Road.words, d ∈ tables_1) d hd)
theorem leq_d0 : decode jdk_43_method_13_code 0 = .ok (.aload_n 0, 1) := by decide +kernel
theorem leq_d1 : decode jdk_43_method_13_code 1 = .ok (.arraylength, 1) := by decide +kernel
theorem leq_d2 : decode jdk_43_method_13_code 2 = .ok (.aload_n 1, 1) := by decide +kernel
theorem leq_d3 : decode jdk_43_method_13_code 3 = .ok (.arraylength, 1) := by decide +kernel
theorem leq_d4 : decode jdk_43_method_13_code 4 = .ok (.if_icmp .ne 30, 3) := by decide +kernel
theorem leq_d7 : decode jdk_43_method_13_code 7 = .ok (.iconst 0, 1) := by decide +kernel
theorem leq_d8 : decode jdk_43_method_13_code 8 = .ok (.istore_n 2, 1) := by decide +kernel
theorem leq_d9 : decode jdk_43_method_13_code 9 = .ok (.iload_n 2, 1) := by decide +kernel
theorem leq_d10 : decode jdk_43_method_13_code 10 = .ok (.aload_n 0, 1) := by decide +kernel
theorem leq_d11 : decode jdk_43_method_13_code 11 = .ok (.arraylength, 1) := by decide +kernel
theorem leq_d12 : decode jdk_43_method_13_code 12 = .ok (.if_icmp .ge 20, 3) := by decide +kernel
theorem leq_d15 : decode jdk_43_method_13_code 15 = .ok (.aload_n 0, 1) := by decide +kernel
theorem leq_d16 : decode jdk_43_method_13_code 16 = .ok (.iload_n 2, 1) := by decide +kernel
theorem leq_d17 : decode jdk_43_method_13_code 17 = .ok (.baload, 1) := by decide +kernel
theorem leq_d18 : decode jdk_43_method_13_code 18 = .ok (.aload_n 1, 1) := by decide +kernel
theorem leq_d19 : decode jdk_43_method_13_code 19 = .ok (.iload_n 2, 1) := by decide +kernel
theorem leq_d20 : decode jdk_43_method_13_code 20 = .ok (.baload, 1) := by decide +kernel
theorem leq_d21 : decode jdk_43_method_13_code 21 = .ok (.if_icmp .eq 5, 3) := by decide +kernel
theorem leq_d24 : decode jdk_43_method_13_code 24 = .ok (.iconst 0, 1) := by decide +kernel
theorem leq_d25 : decode jdk_43_method_13_code 25 = .ok (.ireturn, 1) := by decide +kernel
theorem leq_d26 : decode jdk_43_method_13_code 26 = .ok (.iinc 2 1, 3) := by decide +kernel
theorem leq_d29 : decode jdk_43_method_13_code 29 = .ok (.goto (-20), 3) := by decide +kernel
theorem leq_d32 : decode jdk_43_method_13_code 32 = .ok (.iconst 1, 1) := by decide +kernel
theorem leq_d33 : decode jdk_43_method_13_code 33 = .ok (.ireturn, 1) := by decide +kernel
theorem leq_d34 : decode jdk_43_method_13_code 34 = .ok (.iconst 0, 1) := by decide +kernel
theorem leq_d35 : decode jdk_43_method_13_code 35 = .ok (.ireturn, 1) := by decide +kernel
theorem leq_pn : plainName "java/lang/StringLatin1" = true := by first | (simp [plainName, overriddenIn]; done) | decide +kernel
theorem leq_ef (m : MethodId) (x0 : Addr) (x1 : Addr) : entryFrame m #[(.ref x0), (.ref x1)] 3 = mkF m 0 #[.val (.ref x0), .val (.ref x1), .unset] [] := by first | (simp [entryFrame, mkF, argsToLocals, Value.category]; done) | rfl
set_option maxRecDepth 65536 in
set_option maxHeartbeats 40000000 in
theorem rm_leq (l : Launch) (Z : State) (a0 : Array Value) (hw : ∀ d ∈ tables_1, d.before a0 Z = true) (ws : List Jvm.Cond) (t1 : Addr) (t2 : Addr) (k1 : ClassId) (k2 : ClassId) (bs : List Int32) (ds : List Int32) (h0 : Heap) (n0 : Nat) (Z0 : n0 ≤ h0.size) (V1 : Arv Z h0 t1 k1 .byte (Int32.ofNat bs.length) (bs.map Value.int) (.int 0)) (V2 : Arv Z h0 t2 k2 .byte (Int32.ofNat ds.length) (ds.map Value.int) (.int 0)) (m1 : bs.length ≤ 4000) (m2 : ds.length ≤ 4000) :
    MetFree l (⟨"java/lang/StringLatin1", "equals", "([B[B)Z"⟩ : MethodName) (head1 (Jvm.Cond.code (⟨"java/lang/StringLatin1", "equals", "([B[B)Z"⟩ : MethodName) jdk_43_method_13_code 3 (some .boolean) :: ws) ({ frames := 0, cells := 0, slots := 0, locals := 0 } : Room)) (fun a U => a = #[(.ref t1), (.ref t2)] ∧ Z.Warmed39 U.vm ∧ U.heap = h0) (fun _ _ _ _ _ => True) (fun _ U o U' => OwnEnd U (fun v h L => v = some (.int (if bs = ds then 1 else 0)) ∧ Fr n0 L ∧ h = h0) ({ frames := 0, cells := 0, slots := 0, locals := 0 } : Room).cells ({ frames := 0, cells := 0, slots := 0, locals := 0 } : Room).slots o U') := by
  refine MetFree.of_bodySF (plainFor_of_name leq_pn) hisR ?_
  intro p e s m args below meth c s₁ Bd hml0 hP hK
  obtain ⟨rfl, hZ, hh⟩ := hP
  have hx := Bd.exec
  have hby := Bd.bytes
  have hml : c.maxLocals = 3 := hml0
  have hown : s.vm.findClass "java/lang/StringLatin1" = some m.cls := findClass_of_methodNamed Bd.named
  have hnm := (name_of_methodNamed Bd.named Bd.method).1
  have X0 : Stand p l e ({ frames := 0, cells := 0, slots := 0, locals := 0 } : Room) s m #[(.ref t1), (.ref t2)] below meth c s₁ [] 0 0 := Stand.of_body Bd
  have e0 : s₁.heap = h0 := by rw [← hh, Bd.state]; rfl
  have N0 := Fr.nil n0
  have KP0 := Keep.refl h0 []
  refine own_go (Q := (OwnEnd s (fun v h L => v = some (.int (if bs = ds then 1 else 0)) ∧ Fr n0 L ∧ h = h0) ({ frames := 0, cells := 0, slots := 0, locals := 0 } : Room).cells ({ frames := 0, cells := 0, slots := 0, locals := 0 } : Room).slots)) ?_
  refine own_back (fun t k => castTop (leq_ef m t1 t2) k) ?_
  show OwnGo p e below (s₁.setTop (mkF m 0 #[.val (.ref t1), .val (.ref t2), .unset] [])) _
  refine own_back (fun t k => XS.aloadN X0.here hx rfl (hb hby leq_d0) rfl rfl k) ?_
  show OwnGo p e below (s₁.setTop (mkF m 1 #[.val (.ref t1), .val (.ref t2), .unset] [(.ref t1)])) _
  obtain ⟨c101, A101, q101, S101, M101, H101, U101⟩ := id V1
  refine own_back (fun t k => X0.arraylength hx (own_hat e0 A101.1) (State.isArrayOf_alike hZ.alike A101.2.1) (g := (mkF m 1 #[.val (.ref t1), .val (.ref t2), .unset] [(.ref t1)])) rfl rfl (hb hby leq_d1) t k) ?_
  rw [len_of S101 M101]
  show OwnGo p e below (s₁.setTop (mkF m 2 #[.val (.ref t1), .val (.ref t2), .unset] [(.int (Int32.ofNat bs.length))])) _
  refine own_back (fun t k => XS.aloadN X0.here hx rfl (hb hby leq_d2) rfl rfl k) ?_
  show OwnGo p e below (s₁.setTop (mkF m 3 #[.val (.ref t1), .val (.ref t2), .unset] [(.ref t2), (.int (Int32.ofNat bs.length))])) _
  obtain ⟨c102, A102, q102, S102, M102, H102, U102⟩ := id V2
  refine own_back (fun t k => X0.arraylength hx (own_hat e0 A102.1) (State.isArrayOf_alike hZ.alike A102.2.1) (g := (mkF m 3 #[.val (.ref t1), .val (.ref t2), .unset] [(.ref t2), (.int (Int32.ofNat bs.length))])) rfl rfl (hb hby leq_d3) t k) ?_
  rw [len_of S102 M102]
  show OwnGo p e below (s₁.setTop (mkF m 4 #[.val (.ref t1), .val (.ref t2), .unset] [(.int (Int32.ofNat ds.length)), (.int (Int32.ofNat bs.length))])) _
  by_cases hc4_103 : (Int32.ofNat bs.length) = (Int32.ofNat ds.length)
  · refine own_back (fun t k => XS.icmpNo X0.here hx rfl (hb hby leq_d4) rfl (Jvm.Free.XT.ii_ne_f hc4_103) k) ?_
    show OwnGo p e below (s₁.setTop (mkF m 7 #[.val (.ref t1), .val (.ref t2), .unset] [])) _
    refine own_back (fun t k => XS.iconst X0.here hx rfl (hb hby leq_d7) k) ?_
    show OwnGo p e below (s₁.setTop (mkF m 8 #[.val (.ref t1), .val (.ref t2), .unset] [(.int (0 : Int32))])) _
    refine own_back (fun t k => XS.istoreN X0.here hx rfl (hb hby leq_d8) rfl (l' := #[.val (.ref t1), .val (.ref t2), .val (.int (0 : Int32))]) rfl k) ?_
    show OwnGo p e below (s₁.setTop (mkF m 9 #[.val (.ref t1), .val (.ref t2), .val (.int (0 : Int32))] [])) _
    have hl104 : bs.length = ds.length := own_eqi (by omega) (by omega) hc4_103
    have loop : ∀ (j i : Nat), i + j = bs.length → (∀ q, q < i → bs.getD q 0 = ds.getD q 0) → OwnGo p e below (s₁.setTop (mkF m 9 #[.val (.ref t1), .val (.ref t2), .val (.int (Int32.ofNat i))] [])) (OwnEnd s (fun v h L => v = some (.int (if bs = ds then 1 else 0)) ∧ Fr n0 L ∧ h = h0) ({ frames := 0, cells := 0, slots := 0, locals := 0 } : Room).cells ({ frames := 0, cells := 0, slots := 0, locals := 0 } : Room).slots) := by
      intro j
      induction j with
      | zero =>
        intro i hi hs
        show OwnGo p e below (s₁.setTop (mkF m 9 #[.val (.ref t1), .val (.ref t2), .val (.int (Int32.ofNat i))] [])) _
        refine own_back (fun t k => XS.iloadN X0.here hx rfl (hb hby leq_d9) rfl k) ?_
        show OwnGo p e below (s₁.setTop (mkF m 10 #[.val (.ref t1), .val (.ref t2), .val (.int (Int32.ofNat i))] [(.int (Int32.ofNat i))])) _
        refine own_back (fun t k => XS.aloadN X0.here hx rfl (hb hby leq_d10) rfl rfl k) ?_
        show OwnGo p e below (s₁.setTop (mkF m 11 #[.val (.ref t1), .val (.ref t2), .val (.int (Int32.ofNat i))] [(.ref t1), (.int (Int32.ofNat i))])) _
        obtain ⟨c105, A105, q105, S105, M105, H105, U105⟩ := id V1
        refine own_back (fun t k => X0.arraylength hx (own_hat e0 A105.1) (State.isArrayOf_alike hZ.alike A105.2.1) (g := (mkF m 11 #[.val (.ref t1), .val (.ref t2), .val (.int (Int32.ofNat i))] [(.ref t1), (.int (Int32.ofNat i))])) rfl rfl (hb hby leq_d11) t k) ?_
        rw [len_of S105 M105]
        show OwnGo p e below (s₁.setTop (mkF m 12 #[.val (.ref t1), .val (.ref t2), .val (.int (Int32.ofNat i))] [(.int (Int32.ofNat bs.length)), (.int (Int32.ofNat i))])) _
        refine own_back (fun t k => XS.icmpYes X0.here hx rfl (pc0 := 12) (pc' := 32) rfl (hb hby leq_d12) rfl (Jvm.Free.XT.ii_ge_t (by rw [show i = bs.length by omega]; exact Int32.lt_irrefl)) (by decide) (by decide) k) ?_
        show OwnGo p e below (s₁.setTop (mkF m 32 #[.val (.ref t1), .val (.ref t2), .val (.int (Int32.ofNat i))] [])) _
        refine own_back (fun t k => XS.iconst X0.here hx rfl (hb hby leq_d32) k) ?_
        show OwnGo p e below (s₁.setTop (mkF m 33 #[.val (.ref t1), .val (.ref t2), .val (.int (Int32.ofNat i))] [(.int (1 : Int32))])) _
        refine own_retN X0 hx Bd.notSynchronized (t := .boolean) (z := (1 : Int32)) Bd.returns (by simp) rfl (hb hby leq_d33) e0 (Nat.le_of_ble_eq_true rfl) (Nat.le_of_ble_eq_true rfl) ?_
        exact ⟨by rw [if_pos (own_exteq hl104 (fun q hq => hs q (by omega)))], N0, rfl⟩
      | succ j ih =>
        intro i hi hs
        show OwnGo p e below (s₁.setTop (mkF m 9 #[.val (.ref t1), .val (.ref t2), .val (.int (Int32.ofNat i))] [])) _
        refine own_back (fun t k => XS.iloadN X0.here hx rfl (hb hby leq_d9) rfl k) ?_
        show OwnGo p e below (s₁.setTop (mkF m 10 #[.val (.ref t1), .val (.ref t2), .val (.int (Int32.ofNat i))] [(.int (Int32.ofNat i))])) _
        refine own_back (fun t k => XS.aloadN X0.here hx rfl (hb hby leq_d10) rfl rfl k) ?_
        show OwnGo p e below (s₁.setTop (mkF m 11 #[.val (.ref t1), .val (.ref t2), .val (.int (Int32.ofNat i))] [(.ref t1), (.int (Int32.ofNat i))])) _
        obtain ⟨c106, A106, q106, S106, M106, H106, U106⟩ := id V1
        refine own_back (fun t k => X0.arraylength hx (own_hat e0 A106.1) (State.isArrayOf_alike hZ.alike A106.2.1) (g := (mkF m 11 #[.val (.ref t1), .val (.ref t2), .val (.int (Int32.ofNat i))] [(.ref t1), (.int (Int32.ofNat i))])) rfl rfl (hb hby leq_d11) t k) ?_
        rw [len_of S106 M106]
        show OwnGo p e below (s₁.setTop (mkF m 12 #[.val (.ref t1), .val (.ref t2), .val (.int (Int32.ofNat i))] [(.int (Int32.ofNat bs.length)), (.int (Int32.ofNat i))])) _
        refine own_back (fun t k => XS.icmpNo X0.here hx rfl (hb hby leq_d12) rfl (Jvm.Free.XT.ii_ge_f (own_lti (by omega) (by omega))) k) ?_
        show OwnGo p e below (s₁.setTop (mkF m 15 #[.val (.ref t1), .val (.ref t2), .val (.int (Int32.ofNat i))] [])) _
        refine own_back (fun t k => XS.aloadN X0.here hx rfl (hb hby leq_d15) rfl rfl k) ?_
        show OwnGo p e below (s₁.setTop (mkF m 16 #[.val (.ref t1), .val (.ref t2), .val (.int (Int32.ofNat i))] [(.ref t1)])) _
        refine own_back (fun t k => XS.iloadN X0.here hx rfl (hb hby leq_d16) rfl k) ?_
        show OwnGo p e below (s₁.setTop (mkF m 17 #[.val (.ref t1), .val (.ref t2), .val (.int (Int32.ofNat i))] [(.int (Int32.ofNat i)), (.ref t1)])) _
        obtain ⟨c107, A107, q107, S107, M107, H107, U107⟩ := id V1
        have ib108 : ¬ ((Int32.ofNat i) < 0 ∨ c107.slots.size ≤ ((Int32.ofNat i)).toNatClampNeg) := (inb_of S107 ⟨own_nn (by omega), own_lti (by omega) (by omega)⟩)
        refine own_back (fun t k => X0.baloadBytes hx (j := (Int32.ofNat i)) (v := (.int (bs.getD i 0))) (own_hat e0 A107.1) (State.isArrayOf_alike hZ.alike A107.2.1) A107.2.2 ib108 (H107.at ib108 (own_mapget bs i (by omega))) (g := (mkF m 17 #[.val (.ref t1), .val (.ref t2), .val (.int (Int32.ofNat i))] [(.int (Int32.ofNat i)), (.ref t1)])) rfl rfl (hb hby leq_d17) t k) ?_
        show OwnGo p e below (s₁.setTop (mkF m 18 #[.val (.ref t1), .val (.ref t2), .val (.int (Int32.ofNat i))] [(.int (bs.getD i 0))])) _
        refine own_back (fun t k => XS.aloadN X0.here hx rfl (hb hby leq_d18) rfl rfl k) ?_
        show OwnGo p e below (s₁.setTop (mkF m 19 #[.val (.ref t1), .val (.ref t2), .val (.int (Int32.ofNat i))] [(.ref t2), (.int (bs.getD i 0))])) _
        refine own_back (fun t k => XS.iloadN X0.here hx rfl (hb hby leq_d19) rfl k) ?_
        show OwnGo p e below (s₁.setTop (mkF m 20 #[.val (.ref t1), .val (.ref t2), .val (.int (Int32.ofNat i))] [(.int (Int32.ofNat i)), (.ref t2), (.int (bs.getD i 0))])) _
        obtain ⟨c109, A109, q109, S109, M109, H109, U109⟩ := id V2
        have ib110 : ¬ ((Int32.ofNat i) < 0 ∨ c109.slots.size ≤ ((Int32.ofNat i)).toNatClampNeg) := (inb_of S109 ⟨own_nn (by omega), own_lti (by omega) (by omega)⟩)
        refine own_back (fun t k => X0.baloadBytes hx (j := (Int32.ofNat i)) (v := (.int (ds.getD i 0))) (own_hat e0 A109.1) (State.isArrayOf_alike hZ.alike A109.2.1) A109.2.2 ib110 (H109.at ib110 (own_mapget ds i (by omega))) (g := (mkF m 20 #[.val (.ref t1), .val (.ref t2), .val (.int (Int32.ofNat i))] [(.int (Int32.ofNat i)), (.ref t2), (.int (bs.getD i 0))])) rfl rfl (hb hby leq_d20) t k) ?_
        show OwnGo p e below (s₁.setTop (mkF m 21 #[.val (.ref t1), .val (.ref t2), .val (.int (Int32.ofNat i))] [(.int (ds.getD i 0)), (.int (bs.getD i 0))])) _
        by_cases hc21_111 : (bs.getD i 0) = (ds.getD i 0)
        · refine own_back (fun t k => XS.icmpYes X0.here hx rfl (pc0 := 21) (pc' := 26) rfl (hb hby leq_d21) rfl (Jvm.Free.XT.ii_eq_t hc21_111) (by decide) (by decide) k) ?_
          show OwnGo p e below (s₁.setTop (mkF m 26 #[.val (.ref t1), .val (.ref t2), .val (.int (Int32.ofNat i))] [])) _
          refine own_back (fun t k => XS.iinc X0.here hx rfl (hb hby leq_d26) rfl (l' := #[.val (.ref t1), .val (.ref t2), .val (.int ((Int32.ofNat i) + (1 : Int32)))]) rfl k) ?_
          show OwnGo p e below (s₁.setTop (mkF m 29 #[.val (.ref t1), .val (.ref t2), .val (.int ((Int32.ofNat i) + (1 : Int32)))] [])) _
          refine own_back (fun t k => XS.goto X0.here hx rfl (pc0 := 29) (pc' := 9) rfl (hb hby leq_d29) (by decide) (by decide) k) ?_
          show OwnGo p e below (s₁.setTop (mkF m 9 #[.val (.ref t1), .val (.ref t2), .val (.int ((Int32.ofNat i) + (1 : Int32)))] [])) _
          rw [own_suci]
          refine ih (i + 1) (by omega) (fun q hq => ?_)
          rcases Nat.lt_succ_iff_lt_or_eq.mp hq with h | h
          · exact hs q h
          · rw [h]; exact hc21_111
        · refine own_back (fun t k => XS.icmpNo X0.here hx rfl (hb hby leq_d21) rfl (Jvm.Free.XT.ii_eq_f hc21_111) k) ?_
          show OwnGo p e below (s₁.setTop (mkF m 24 #[.val (.ref t1), .val (.ref t2), .val (.int (Int32.ofNat i))] [])) _
          refine own_back (fun t k => XS.iconst X0.here hx rfl (hb hby leq_d24) k) ?_
          show OwnGo p e below (s₁.setTop (mkF m 25 #[.val (.ref t1), .val (.ref t2), .val (.int (Int32.ofNat i))] [(.int (0 : Int32))])) _
          refine own_retN X0 hx Bd.notSynchronized (t := .boolean) (z := (0 : Int32)) Bd.returns (by simp) rfl (hb hby leq_d25) e0 (Nat.le_of_ble_eq_true rfl) (Nat.le_of_ble_eq_true rfl) ?_
          exact ⟨by rw [if_neg (fun q => hc21_111 (by rw [q]))], N0, rfl⟩
    exact loop bs.length 0 (by omega) (fun q hq => absurd hq (Nat.not_lt_zero _))
  · refine own_back (fun t k => XS.icmpYes X0.here hx rfl (pc0 := 4) (pc' := 34) rfl (hb hby leq_d4) rfl (Jvm.Free.XT.ii_ne_t hc4_103) (by decide) (by decide) k) ?_
    show OwnGo p e below (s₁.setTop (mkF m 34 #[.val (.ref t1), .val (.ref t2), .unset] [])) _
    refine own_back (fun t k => XS.iconst X0.here hx rfl (hb hby leq_d34) k) ?_
    show OwnGo p e below (s₁.setTop (mkF m 35 #[.val (.ref t1), .val (.ref t2), .unset] [(.int (0 : Int32))])) _
    refine own_retN X0 hx Bd.notSynchronized (t := .boolean) (z := (0 : Int32)) Bd.returns (by simp) rfl (hb hby leq_d35) e0 (Nat.le_of_ble_eq_true rfl) (Nat.le_of_ble_eq_true rfl) ?_
    exact ⟨by rw [if_neg (fun q => hc4_103 (by rw [q]))], N0, rfl⟩
theorem own_ite0 {P : Prop} [Decidable P] (h : (if P then (1 : Int32) else 0) = 0) : (if P then (1 : Int32) else 0) = 0 := h
theorem own_ite1 {P : Prop} [Decidable P] (h : ¬ (if P then (1 : Int32) else 0) = 0) : (if P then (1 : Int32) else 0) = 1 := by
  by_cases q : P
  · exact if_pos q
  · exact absurd (if_neg q) h
theorem own_arvget {Z : State} {h : Heap} {t : Addr} {k k' : ClassId} {ty ty' : FieldType} {z z' : Int32} {vs vs' : List Value} {d d' : Value} (A : Arv Z h t k ty z vs d) (B : Arv Z h t k' ty' z' vs' d') : z.toNatClampNeg = z'.toNatClampNeg ∧ ∀ i, i < z.toNatClampNeg → vs.getD i d = vs'.getD i d' := by
  obtain ⟨c, A1, -, A3, -, A5, -⟩ := A
  obtain ⟨c', B1, -, B3, -, B5, -⟩ := B
  cases A1.1.symm.trans B1.1
  refine ⟨A3.symm.trans B3, fun i hi => ?_⟩
  have q1 := A5 i (by omega)
  have q2 := B5 i (by omega)
  exact Option.some.inj (q1.symm.trans q2)
theorem own_sameb {Z : State} {h : Heap} {a : Addr} {bs ds : List Int32} (F : OwnStr Z h a bs) (G : OwnStr Z h a ds) : bs = ds := by
  obtain ⟨t, k, h1, h2, h3, h4, h5⟩ := F
  obtain ⟨t', k', g1, g2, g3, g4, g5⟩ := G
  have e : t = t' := Decidable.byContradiction fun q => Fld.ne h3 g3 (fun z => q (Value.ref.inj z)) rfl
  subst e
  obtain ⟨q1, q2⟩ := own_arvget h4 g4
  rw [own_clamp (by omega), own_clamp (by omega)] at q1
  rw [own_clamp (by omega)] at q2
  refine own_exteq q1 fun j hj => ?_
  have := q2 j hj
  have e1 := own_mapget bs j (by omega)
  have e2 := own_mapget ds j (by omega)
  rw [own_clamp (by omega)] at e1 e2
  rw [e1, e2] at this
  exact Value.int.inj this
theorem seq_d0 : decode jdk_42_method_66_code 0 = .ok (.aload_n 0, 1) := by decide +kernel
theorem seq_d1 : decode jdk_42_method_66_code 1 = .ok (.aload_n 1, 1) := by decide +kernel
theorem seq_d2 : decode jdk_42_method_66_code 2 = .ok (.if_acmp .ne 5, 3) := by decide +kernel
theorem seq_d5 : decode jdk_42_method_66_code 5 = .ok (.iconst 1, 1) := by decide +kernel
theorem seq_d6 : decode jdk_42_method_66_code 6 = .ok (.ireturn, 1) := by decide +kernel
theorem seq_d7 : decode jdk_42_method_66_code 7 = .ok (.aload_n 1, 1) := by decide +kernel
theorem seq_d8 : decode jdk_42_method_66_code 8 = .ok (.instanceof 10, 3) := by decide +kernel
theorem seq_d11 : decode jdk_42_method_66_code 11 = .ok (.ifCond .eq 43, 3) := by decide +kernel
theorem seq_d14 : decode jdk_42_method_66_code 14 = .ok (.aload_n 1, 1) := by decide +kernel
theorem seq_d15 : decode jdk_42_method_66_code 15 = .ok (.checkcast 10, 3) := by decide +kernel
theorem seq_d18 : decode jdk_42_method_66_code 18 = .ok (.astore_n 2, 1) := by decide +kernel
theorem seq_d19 : decode jdk_42_method_66_code 19 = .ok (.getstatic 38, 3) := by decide +kernel
theorem seq_d22 : decode jdk_42_method_66_code 22 = .ok (.ifCond .eq 14, 3) := by decide +kernel
theorem seq_d25 : decode jdk_42_method_66_code 25 = .ok (.aload_n 0, 1) := by decide +kernel
theorem seq_d26 : decode jdk_42_method_66_code 26 = .ok (.getfield 15, 3) := by decide +kernel
theorem seq_d29 : decode jdk_42_method_66_code 29 = .ok (.aload_n 2, 1) := by decide +kernel
theorem seq_d30 : decode jdk_42_method_66_code 30 = .ok (.getfield 15, 3) := by decide +kernel
theorem seq_d33 : decode jdk_42_method_66_code 33 = .ok (.if_icmp .ne 21, 3) := by decide +kernel
theorem seq_d36 : decode jdk_42_method_66_code 36 = .ok (.aload_n 0, 1) := by decide +kernel
theorem seq_d37 : decode jdk_42_method_66_code 37 = .ok (.getfield 9, 3) := by decide +kernel
theorem seq_d40 : decode jdk_42_method_66_code 40 = .ok (.aload_n 2, 1) := by decide +kernel
theorem seq_d41 : decode jdk_42_method_66_code 41 = .ok (.getfield 9, 3) := by decide +kernel
theorem seq_d44 : decode jdk_42_method_66_code 44 = .ok (.invokestatic 541, 3) := by decide +kernel
theorem seq_d47 : decode jdk_42_method_66_code 47 = .ok (.ifCond .eq 7, 3) := by decide +kernel
theorem seq_d50 : decode jdk_42_method_66_code 50 = .ok (.iconst 1, 1) := by decide +kernel
theorem seq_d51 : decode jdk_42_method_66_code 51 = .ok (.goto 4, 3) := by decide +kernel
theorem seq_d54 : decode jdk_42_method_66_code 54 = .ok (.iconst 0, 1) := by decide +kernel
theorem seq_d55 : decode jdk_42_method_66_code 55 = .ok (.ireturn, 1) := by decide +kernel
theorem seq_pn : plainName "java/lang/String" = true := by first | (simp [plainName, overriddenIn]; done) | decide +kernel
theorem seq_pd0 : parseMethodDescriptor "([B[B)Z" = some ⟨[(.array .byte), (.array .byte)], some .boolean⟩ := by decide +kernel
theorem seq_ef (m : MethodId) (x0 : Addr) (x1 : Addr) : entryFrame m #[(.ref x0), (.ref x1)] 3 = mkF m 0 #[.val (.ref x0), .val (.ref x1), .unset] [] := by first | (simp [entryFrame, mkF, argsToLocals, Value.category]; done) | rfl
set_option maxRecDepth 65536 in
set_option maxHeartbeats 40000000 in
theorem rm_seq (l : Launch) (Z : State) (a0 : Array Value) (hw : ∀ d ∈ tables_1, d.before a0 Z = true) (ws : List Jvm.Cond) (a1 : Addr) (a2 : Addr) (bs : List Int32) (ds : List Int32) (cz : Int32) (h0 : Heap) (n0 : Nat) (Z0 : n0 ≤ h0.size) (OL : Old Z n0 h0) (B1 : OwnStr Z h0 a1 bs) (B2 : OwnStr Z h0 a2 ds) (SC : Sta Z Z.heap "java/lang/String" "COMPACT_STRINGS" "Z" (.int cz)) (hcz : ¬ cz = 0) :
    MetFree l (⟨"java/lang/String", "equals", "(Ljava/lang/Object;)Z"⟩ : MethodName) (head1 (Jvm.Cond.code (⟨"java/lang/String", "equals", "(Ljava/lang/Object;)Z"⟩ : MethodName) jdk_42_method_66_code 3 (some .boolean) :: ws) ({ frames := 1, cells := 0, slots := 0, locals := 20 } : Room)) (fun a U => a = #[(.ref a1), (.ref a2)] ∧ Z.Warmed39 U.vm ∧ U.heap = h0) (fun _ _ _ _ _ => True) (fun _ U o U' => OwnEnd U (fun v h L => v = some (.int (if bs = ds then 1 else 0)) ∧ Fr n0 L ∧ h = h0) ({ frames := 1, cells := 0, slots := 0, locals := 20 } : Room).cells ({ frames := 1, cells := 0, slots := 0, locals := 20 } : Room).slots o U') := by
  refine MetFree.of_bodySF (plainFor_of_name seq_pn) hisR ?_
  intro p e s m args below meth c s₁ Bd hml0 hP hK
  obtain ⟨rfl, hZ, hh⟩ := hP
  have hx := Bd.exec
  have hby := Bd.bytes
  have hml : c.maxLocals = 3 := hml0
  have hown : s.vm.findClass "java/lang/String" = some m.cls := findClass_of_methodNamed Bd.named
  have hnm := (name_of_methodNamed Bd.named Bd.method).1
  have X0 : Stand p l e ({ frames := 1, cells := 0, slots := 0, locals := 20 } : Room) s m #[(.ref a1), (.ref a2)] below meth c s₁ [] 0 0 := Stand.of_body Bd
  have e0 : s₁.heap = h0 := by rw [← hh, Bd.state]; rfl
  have N0 := Fr.nil n0
  have KP0 := Keep.refl h0 []
  refine own_go (Q := (OwnEnd s (fun v h L => v = some (.int (if bs = ds then 1 else 0)) ∧ Fr n0 L ∧ h = h0) ({ frames := 1, cells := 0, slots := 0, locals := 20 } : Room).cells ({ frames := 1, cells := 0, slots := 0, locals := 20 } : Room).slots)) ?_
  refine own_back (fun t k => castTop (seq_ef m a1 a2) k) ?_
  show OwnGo p e below (s₁.setTop (mkF m 0 #[.val (.ref a1), .val (.ref a2), .unset] [])) _
  obtain ⟨t1, k1, E1, C1, F1, V1, m1⟩ := B1
  obtain ⟨t2, k2, E2, C2, F2, V2, m2⟩ := B2
  refine own_back (fun t k => XS.aloadN X0.here hx rfl (hb hby seq_d0) rfl rfl k) ?_
  show OwnGo p e below (s₁.setTop (mkF m 1 #[.val (.ref a1), .val (.ref a2), .unset] [(.ref a1)])) _
  refine own_back (fun t k => XS.aloadN X0.here hx rfl (hb hby seq_d1) rfl rfl k) ?_
  show OwnGo p e below (s₁.setTop (mkF m 2 #[.val (.ref a1), .val (.ref a2), .unset] [(.ref a2), (.ref a1)])) _
  by_cases ha2_112 : a1 = a2
  · refine own_back (fun t k => Jvm.RoadKit.acmp (g := (mkF m 2 #[.val (.ref a1), .val (.ref a2), .unset] [(.ref a2), (.ref a1)])) X0 hx rfl rfl rfl (pc0 := 2) (pc' := 5) (same := true) rfl (hb hby seq_d2) rfl (decide_eq_true (congrArg Value.ref ha2_112)) (by decide) (by decide) k) ?_
    show OwnGo p e below (s₁.setTop (mkF m 5 #[.val (.ref a1), .val (.ref a2), .unset] [])) _
    refine own_back (fun t k => XS.iconst X0.here hx rfl (hb hby seq_d5) k) ?_
    show OwnGo p e below (s₁.setTop (mkF m 6 #[.val (.ref a1), .val (.ref a2), .unset] [(.int (1 : Int32))])) _
    refine own_retN X0 hx Bd.notSynchronized (t := .boolean) (z := (1 : Int32)) Bd.returns (by simp) rfl (hb hby seq_d6) e0 (Nat.le_of_ble_eq_true rfl) (Nat.le_of_ble_eq_true rfl) ?_
    exact ⟨by rw [if_pos (own_sameb (by exact ⟨_, _, E1, C1, F1, V1, m1⟩) (by rw [ha2_112]; exact ⟨_, _, E2, C2, F2, V2, m2⟩))], N0, rfl⟩
  · refine own_back (fun t k => Jvm.RoadKit.acmp (g := (mkF m 2 #[.val (.ref a1), .val (.ref a2), .unset] [(.ref a2), (.ref a1)])) X0 hx rfl rfl rfl (pc0 := 2) (pc' := 7) (same := false) rfl (hb hby seq_d2) rfl (decide_eq_false fun q => ha2_112 (Value.ref.inj q)) (by decide) (by decide) k) ?_
    show OwnGo p e below (s₁.setTop (mkF m 7 #[.val (.ref a1), .val (.ref a2), .unset] [])) _
    refine own_back (fun t k => XS.aloadN X0.here hx rfl (hb hby seq_d7) rfl rfl k) ?_
    show OwnGo p e below (s₁.setTop (mkF m 8 #[.val (.ref a1), .val (.ref a2), .unset] [(.ref a2)])) _
    obtain ⟨T113, X113, e113, st113⟩ := instY X0 hx hZ hown (hw _ (List.mem_of_getElem? (i := 54) rfl)) e0 (Ins.self E2) (g := (mkF m 8 #[.val (.ref a1), .val (.ref a2), .unset] [(.ref a2)])) rfl rfl (hb hby seq_d8)
    refine own_back st113 ?_
    show OwnGo p e below (T113.setTop (mkF m 11 #[.val (.ref a1), .val (.ref a2), .unset] [(.int (1 : Int32))])) _
    refine own_back (fun t k => XS.ifNo X113.here hx rfl (hb hby seq_d11) rfl (Jvm.Free.XT.i0_eq_f (by decide)) k) ?_
    show OwnGo p e below (T113.setTop (mkF m 14 #[.val (.ref a1), .val (.ref a2), .unset] [])) _
    refine own_back (fun t k => XS.aloadN X113.here hx rfl (hb hby seq_d14) rfl rfl k) ?_
    show OwnGo p e below (T113.setTop (mkF m 15 #[.val (.ref a1), .val (.ref a2), .unset] [(.ref a2)])) _
    obtain ⟨T114, X114, e114, st114⟩ := castY X113 hx hZ hown (hw _ (List.mem_of_getElem? (i := 54) rfl)) e113 (Ins.self E2) (g := (mkF m 15 #[.val (.ref a1), .val (.ref a2), .unset] [(.ref a2)])) rfl rfl (hb hby seq_d15)
    refine own_back st114 ?_
    show OwnGo p e below (T114.setTop (mkF m 18 #[.val (.ref a1), .val (.ref a2), .unset] [(.ref a2)])) _
    refine own_back (fun t k => XS.astoreN X114.here hx rfl (hb hby seq_d18) rfl rfl (l' := #[.val (.ref a1), .val (.ref a2), .val (.ref a2)]) rfl k) ?_
    show OwnGo p e below (T114.setTop (mkF m 19 #[.val (.ref a1), .val (.ref a2), .val (.ref a2)] [])) _
    obtain ⟨T115, X115, e115, st115⟩ := getS2 X114 hx hZ hown (host := "") (Or.inl (hw _ (List.mem_of_getElem? (i := 55) rfl))) Via.refl e114 (SC.ext OL.2) (g := (mkF m 19 #[.val (.ref a1), .val (.ref a2), .val (.ref a2)] [])) rfl (hb hby seq_d19)
    refine own_back st115 ?_
    show OwnGo p e below (T115.setTop (mkF m 22 #[.val (.ref a1), .val (.ref a2), .val (.ref a2)] [(.int cz)])) _
    refine own_back (fun t k => XS.ifNo X115.here hx rfl (hb hby seq_d22) rfl (Jvm.Free.XT.i0_eq_f hcz) k) ?_
    show OwnGo p e below (T115.setTop (mkF m 25 #[.val (.ref a1), .val (.ref a2), .val (.ref a2)] [])) _
    refine own_back (fun t k => XS.aloadN X115.here hx rfl (hb hby seq_d25) rfl rfl k) ?_
    show OwnGo p e below (T115.setTop (mkF m 26 #[.val (.ref a1), .val (.ref a2), .val (.ref a2)] [(.ref a1)])) _
    obtain ⟨T116, X116, e116, st116⟩ := getF X115 hx hZ hown (host := "") (Or.inl (hw _ (List.mem_of_getElem? (i := 25) rfl))) Via.refl e115 C1 (g := (mkF m 26 #[.val (.ref a1), .val (.ref a2), .val (.ref a2)] [(.ref a1)])) rfl rfl (hb hby seq_d26)
    refine own_back st116 ?_
    show OwnGo p e below (T116.setTop (mkF m 29 #[.val (.ref a1), .val (.ref a2), .val (.ref a2)] [(.int (0 : Int32))])) _
    refine own_back (fun t k => XS.aloadN X116.here hx rfl (hb hby seq_d29) rfl rfl k) ?_
    show OwnGo p e below (T116.setTop (mkF m 30 #[.val (.ref a1), .val (.ref a2), .val (.ref a2)] [(.ref a2), (.int (0 : Int32))])) _
    obtain ⟨T117, X117, e117, st117⟩ := getF X116 hx hZ hown (host := "") (Or.inl (hw _ (List.mem_of_getElem? (i := 25) rfl))) Via.refl e116 C2 (g := (mkF m 30 #[.val (.ref a1), .val (.ref a2), .val (.ref a2)] [(.ref a2), (.int (0 : Int32))])) rfl rfl (hb hby seq_d30)
    refine own_back st117 ?_
    show OwnGo p e below (T117.setTop (mkF m 33 #[.val (.ref a1), .val (.ref a2), .val (.ref a2)] [(.int (0 : Int32)), (.int (0 : Int32))])) _
    refine own_back (fun t k => XS.icmpNo X117.here hx rfl (hb hby seq_d33) rfl (Jvm.Free.XT.ii_ne_f (by decide)) k) ?_
    show OwnGo p e below (T117.setTop (mkF m 36 #[.val (.ref a1), .val (.ref a2), .val (.ref a2)] [])) _
    refine own_back (fun t k => XS.aloadN X117.here hx rfl (hb hby seq_d36) rfl rfl k) ?_
    show OwnGo p e below (T117.setTop (mkF m 37 #[.val (.ref a1), .val (.ref a2), .val (.ref a2)] [(.ref a1)])) _
    obtain ⟨T118, X118, e118, st118⟩ := getF X117 hx hZ hown (host := "") (Or.inl (hw _ (List.mem_of_getElem? (i := 24) rfl))) Via.refl e117 F1 (g := (mkF m 37 #[.val (.ref a1), .val (.ref a2), .val (.ref a2)] [(.ref a1)])) rfl rfl (hb hby seq_d37)
    refine own_back st118 ?_
    show OwnGo p e below (T118.setTop (mkF m 40 #[.val (.ref a1), .val (.ref a2), .val (.ref a2)] [(.ref t1)])) _
    refine own_back (fun t k => XS.aloadN X118.here hx rfl (hb hby seq_d40) rfl rfl k) ?_
    show OwnGo p e below (T118.setTop (mkF m 41 #[.val (.ref a1), .val (.ref a2), .val (.ref a2)] [(.ref a2), (.ref t1)])) _
    obtain ⟨T119, X119, e119, st119⟩ := getF X118 hx hZ hown (host := "") (Or.inl (hw _ (List.mem_of_getElem? (i := 24) rfl))) Via.refl e118 F2 (g := (mkF m 41 #[.val (.ref a1), .val (.ref a2), .val (.ref a2)] [(.ref a2), (.ref t1)])) rfl rfl (hb hby seq_d41)
    refine own_back st119 ?_
    show OwnGo p e below (T119.setTop (mkF m 44 #[.val (.ref a1), .val (.ref a2), .val (.ref a2)] [(.ref t2), (.ref t1)])) _
    obtain ⟨_, _, ⟨T120, L120, k120, n120⟩, -, X120, ⟨Lc120, hQ120, l120, y120, z120⟩, st120⟩ := Jvm.LawKit.callS X119 hx (y := (⟨"java/lang/StringLatin1", "equals", "([B[B)Z"⟩ : MethodName)) hown (mvT hZ (hw _ (List.mem_of_getElem? (i := 56) rfl))) (mvT hZ (hw _ (List.mem_of_getElem? (i := 57) rfl))) (mvT hZ (hw _ (List.mem_of_getElem? (i := 58) rfl))) (mvT hZ (hw _ (List.mem_of_getElem? (i := 59) rfl))) (by decide) (own_backN (W := 0) (rm_leq l Z a0 hw [] t1 t2 k1 k2 bs ds h0 n0 Z0 V1 V2 m1 m2) hZ (hw _ (List.mem_of_getElem? (i := 59) rfl)) (hw _ (List.mem_of_getElem? (i := 58) rfl)) (by decide) (by decide)) (g := (mkF m 44 #[.val (.ref a1), .val (.ref a2), .val (.ref a2)] [(.ref t2), (.ref t1)])) rfl (by rw [hml]; rfl) (argsL := [(.ref t1), (.ref t2)]) (rest := []) (lenOf seq_pd0 rfl) rfl (by show 2 * 0 + _ ≤ _; exact Nat.le_of_eq rfl) (hb hby seq_d44) (fun _ _ => ⟨rfl, e119, Nat.le_of_ble_eq_true rfl, Nat.le_of_ble_eq_true rfl⟩)
    dsimp only [Pt.U, Pt.locs, Pt.cells, Pt.slots] at X120 l120 y120 z120 st120 hQ120
    subst l120 y120 z120
    obtain ⟨rfl, N120q, hh120⟩ := hQ120
    refine own_back st120 ?_
    have N120 := Fr.app N0 N120q
    show OwnGo p e below (T120.setTop (mkF m 47 #[.val (.ref a1), .val (.ref a2), .val (.ref a2)] [(.int (if bs = ds then (1 : Int32) else 0))])) _
    by_cases hc47_121 : (if bs = ds then (1 : Int32) else 0) = (0 : Int32)
    · refine own_back (fun t k => XS.ifYes X120.here hx rfl (pc0 := 47) (pc' := 54) rfl (hb hby seq_d47) rfl (Jvm.Free.XT.i0_eq_t hc47_121) (by decide) (by decide) k) ?_
      show OwnGo p e below (T120.setTop (mkF m 54 #[.val (.ref a1), .val (.ref a2), .val (.ref a2)] [])) _
      refine own_back (fun t k => XS.iconst X120.here hx rfl (hb hby seq_d54) k) ?_
      show OwnGo p e below (T120.setTop (mkF m 55 #[.val (.ref a1), .val (.ref a2), .val (.ref a2)] [(.int (0 : Int32))])) _
      refine own_retN X120 hx Bd.notSynchronized (t := .boolean) (z := (0 : Int32)) Bd.returns (by simp) rfl (hb hby seq_d55) hh120 (Nat.le_of_ble_eq_true rfl) (Nat.le_of_ble_eq_true rfl) ?_
      exact ⟨by rw [own_ite0 hc47_121], N120, rfl⟩
    · refine own_back (fun t k => XS.ifNo X120.here hx rfl (hb hby seq_d47) rfl (Jvm.Free.XT.i0_eq_f hc47_121) k) ?_
      show OwnGo p e below (T120.setTop (mkF m 50 #[.val (.ref a1), .val (.ref a2), .val (.ref a2)] [])) _
      refine own_back (fun t k => XS.iconst X120.here hx rfl (hb hby seq_d50) k) ?_
      show OwnGo p e below (T120.setTop (mkF m 51 #[.val (.ref a1), .val (.ref a2), .val (.ref a2)] [(.int (1 : Int32))])) _
      refine own_back (fun t k => XS.goto X120.here hx rfl (pc0 := 51) (pc' := 55) rfl (hb hby seq_d51) (by decide) (by decide) k) ?_
      show OwnGo p e below (T120.setTop (mkF m 55 #[.val (.ref a1), .val (.ref a2), .val (.ref a2)] [(.int (1 : Int32))])) _
      refine own_retN X120 hx Bd.notSynchronized (t := .boolean) (z := (1 : Int32)) Bd.returns (by simp) rfl (hb hby seq_d55) hh120 (Nat.le_of_ble_eq_true rfl) (Nat.le_of_ble_eq_true rfl) ?_
      exact ⟨by rw [own_ite1 hc47_121], N120, rfl⟩
theorem seqn_d0 : decode jdk_42_method_66_code 0 = .ok (.aload_n 0, 1) := by decide +kernel
theorem seqn_d1 : decode jdk_42_method_66_code 1 = .ok (.aload_n 1, 1) := by decide +kernel
theorem seqn_d2 : decode jdk_42_method_66_code 2 = .ok (.if_acmp .ne 5, 3) := by decide +kernel
theorem seqn_d7 : decode jdk_42_method_66_code 7 = .ok (.aload_n 1, 1) := by decide +kernel
theorem seqn_d8 : decode jdk_42_method_66_code 8 = .ok (.instanceof 10, 3) := by decide +kernel
theorem seqn_d11 : decode jdk_42_method_66_code 11 = .ok (.ifCond .eq 43, 3) := by decide +kernel
theorem seqn_d54 : decode jdk_42_method_66_code 54 = .ok (.iconst 0, 1) := by decide +kernel
theorem seqn_d55 : decode jdk_42_method_66_code 55 = .ok (.ireturn, 1) := by decide +kernel
theorem seqn_pn : plainName "java/lang/String" = true := by first | (simp [plainName, overriddenIn]; done) | decide +kernel
theorem seqn_ef (m : MethodId) (x0 : Addr) : entryFrame m #[(.ref x0), .null] 3 = mkF m 0 #[.val (.ref x0), .val .null, .unset] [] := by first | (simp [entryFrame, mkF, argsToLocals, Value.category]; done) | rfl
set_option maxRecDepth 65536 in
set_option maxHeartbeats 40000000 in
theorem rm_seqn (l : Launch) (Z : State) (a0 : Array Value) (hw : ∀ d ∈ tables_1, d.before a0 Z = true) (ws : List Jvm.Cond) (a1 : Addr) (h0 : Heap) (n0 : Nat) (Z0 : n0 ≤ h0.size)  :
    MetFree l (⟨"java/lang/String", "equals", "(Ljava/lang/Object;)Z"⟩ : MethodName) (head1 (Jvm.Cond.code (⟨"java/lang/String", "equals", "(Ljava/lang/Object;)Z"⟩ : MethodName) jdk_42_method_66_code 3 (some .boolean) :: ws) ({ frames := 0, cells := 0, slots := 0, locals := 0 } : Room)) (fun a U => a = #[(.ref a1), .null] ∧ Z.Warmed39 U.vm ∧ U.heap = h0) (fun _ _ _ _ _ => True) (fun _ U o U' => OwnEnd U (fun v h L => v = some (.int 0) ∧ Fr n0 L ∧ h = h0) ({ frames := 0, cells := 0, slots := 0, locals := 0 } : Room).cells ({ frames := 0, cells := 0, slots := 0, locals := 0 } : Room).slots o U') := by
  refine MetFree.of_bodySF (plainFor_of_name seqn_pn) hisR ?_
  intro p e s m args below meth c s₁ Bd hml0 hP hK
  obtain ⟨rfl, hZ, hh⟩ := hP
  have hx := Bd.exec
  have hby := Bd.bytes
  have hml : c.maxLocals = 3 := hml0
  have hown : s.vm.findClass "java/lang/String" = some m.cls := findClass_of_methodNamed Bd.named
  have hnm := (name_of_methodNamed Bd.named Bd.method).1
  have X0 : Stand p l e ({ frames := 0, cells := 0, slots := 0, locals := 0 } : Room) s m #[(.ref a1), .null] below meth c s₁ [] 0 0 := Stand.of_body Bd
  have e0 : s₁.heap = h0 := by rw [← hh, Bd.state]; rfl
  have N0 := Fr.nil n0
  have KP0 := Keep.refl h0 []
  refine own_go (Q := (OwnEnd s (fun v h L => v = some (.int 0) ∧ Fr n0 L ∧ h = h0) ({ frames := 0, cells := 0, slots := 0, locals := 0 } : Room).cells ({ frames := 0, cells := 0, slots := 0, locals := 0 } : Room).slots)) ?_
  refine own_back (fun t k => castTop (seqn_ef m a1) k) ?_
  show OwnGo p e below (s₁.setTop (mkF m 0 #[.val (.ref a1), .val .null, .unset] [])) _
  refine own_back (fun t k => XS.aloadN X0.here hx rfl (hb hby seqn_d0) rfl rfl k) ?_
  show OwnGo p e below (s₁.setTop (mkF m 1 #[.val (.ref a1), .val .null, .unset] [(.ref a1)])) _
  refine own_back (fun t k => XS.aloadN X0.here hx rfl (hb hby seqn_d1) rfl rfl k) ?_
  show OwnGo p e below (s₁.setTop (mkF m 2 #[.val (.ref a1), .val .null, .unset] [.null, (.ref a1)])) _
  refine own_back (fun t k => Jvm.RoadKit.acmp (g := (mkF m 2 #[.val (.ref a1), .val .null, .unset] [.null, (.ref a1)])) X0 hx rfl rfl rfl (pc0 := 2) (pc' := 7) (same := false) rfl (hb hby seqn_d2) rfl (decide_eq_false nofun) (by decide) (by decide) k) ?_
  show OwnGo p e below (s₁.setTop (mkF m 7 #[.val (.ref a1), .val .null, .unset] [])) _
  refine own_back (fun t k => XS.aloadN X0.here hx rfl (hb hby seqn_d7) rfl rfl k) ?_
  show OwnGo p e below (s₁.setTop (mkF m 8 #[.val (.ref a1), .val .null, .unset] [.null])) _
  refine own_back (fun t k => X0.instanceofNull hx (g := (mkF m 8 #[.val (.ref a1), .val .null, .unset] [.null])) rfl rfl (hb hby seqn_d8) t k) ?_
  show OwnGo p e below (s₁.setTop (mkF m 11 #[.val (.ref a1), .val .null, .unset] [(.int (0 : Int32))])) _
  refine own_back (fun t k => XS.ifYes X0.here hx rfl (pc0 := 11) (pc' := 54) rfl (hb hby seqn_d11) rfl (Jvm.Free.XT.i0_eq_t (by decide)) (by decide) (by decide) k) ?_
  show OwnGo p e below (s₁.setTop (mkF m 54 #[.val (.ref a1), .val .null, .unset] [])) _
  refine own_back (fun t k => XS.iconst X0.here hx rfl (hb hby seqn_d54) k) ?_
  show OwnGo p e below (s₁.setTop (mkF m 55 #[.val (.ref a1), .val .null, .unset] [(.int (0 : Int32))])) _
  refine own_retN X0 hx Bd.notSynchronized (t := .boolean) (z := (0 : Int32)) Bd.returns (by simp) rfl (hb hby seqn_d55) e0 (Nat.le_of_ble_eq_true rfl) (Nat.le_of_ble_eq_true rfl) ?_
  exact ⟨rfl, N0, rfl⟩
theorem si4_d0 : decode jdk_42_method_149_code 0 = .ok (.aload_n 0, 1) := by decide +kernel
theorem si4_d1 : decode jdk_42_method_149_code 1 = .ok (.invokespecial 1, 3) := by decide +kernel
theorem si4_d4 : decode jdk_42_method_149_code 4 = .ok (.iload_n 3, 1) := by decide +kernel
theorem si4_d5 : decode jdk_42_method_149_code 5 = .ok (.ifCond .ne 22, 3) := by decide +kernel
theorem si4_d8 : decode jdk_42_method_149_code 8 = .ok (.aload_n 0, 1) := by decide +kernel
theorem si4_d9 : decode jdk_42_method_149_code 9 = .ok (.ldc 7, 2) := by decide +kernel
theorem si4_d11 : decode jdk_42_method_149_code 11 = .ok (.getfield 9, 3) := by decide +kernel
theorem si4_d14 : decode jdk_42_method_149_code 14 = .ok (.putfield 9, 3) := by decide +kernel
theorem si4_d17 : decode jdk_42_method_149_code 17 = .ok (.aload_n 0, 1) := by decide +kernel
theorem si4_d18 : decode jdk_42_method_149_code 18 = .ok (.ldc 7, 2) := by decide +kernel
theorem si4_d20 : decode jdk_42_method_149_code 20 = .ok (.getfield 15, 3) := by decide +kernel
theorem si4_d23 : decode jdk_42_method_149_code 23 = .ok (.putfield 15, 3) := by decide +kernel
theorem si4_d26 : decode jdk_42_method_149_code 26 = .ok (.return_, 1) := by decide +kernel
theorem si4_pn : plainName "java/lang/String" = true := by first | (simp [plainName, overriddenIn]; done) | decide +kernel
theorem si4_ef (m : MethodId) (x0 : Addr) (x1 : Addr) (x2 : Int32) (x3 : Int32) : entryFrame m #[(.ref x0), (.ref x1), (.int x3), (.int x3), .null] 6 = mkF m 0 #[.val (.ref x0), .val (.ref x1), .val (.int x3), .val (.int x3), .val .null, .unset] [] := by first | (simp [entryFrame, mkF, argsToLocals, Value.category]; done) | rfl
set_option maxRecDepth 65536 in
set_option maxHeartbeats 40000000 in
theorem rm_si4 (l : Launch) (Z : State) (a0 : Array Value) (hw : ∀ d ∈ tables_1, d.before a0 Z = true) (ws : List Jvm.Cond) (a1 : Addr) (b1 : Addr) (uc : Value) (uv : Value) (h0 : Heap) (n0 : Nat) (Z0 : n0 ≤ h0.size) (OL : Old Z n0 h0) (E1 : Exa Z h0 a1 "java/lang/String") (F1 : Fld Z h0 a1 "java/lang/String" "coder" "B" uc) (F2 : Fld Z h0 a1 "java/lang/String" "value" "[B" uv) (g1 : n0 ≤ a1) :
    MetFree l (⟨"java/lang/String", "<init>", "([CIILjava/lang/Void;)V"⟩ : MethodName) (head1 (Jvm.Cond.code (⟨"java/lang/String", "<init>", "([CIILjava/lang/Void;)V"⟩ : MethodName) jdk_42_method_149_code 6 none :: ws) ({ frames := 1, cells := 4, slots := 8, locals := 12 } : Room)) (fun a U => a = #[(.ref a1), (.ref b1), (.int (0 : Int32)), (.int (0 : Int32)), .null] ∧ Z.Warmed39 U.vm ∧ U.heap = h0 ∧ CHv Z own_EL U.vm h0 ∧ ∀ x ∈ ([a1] : List Addr), Safe Z own_EL U.vm h0 x) (fun _ _ _ _ _ => True) (fun _ U o U' => OwnEndW Z own_EL U (fun v h L => v = none ∧ Fr n0 L ∧ Keep h0 h [a1] ∧ OwnStr Z h a1 []) ({ frames := 1, cells := 4, slots := 8, locals := 12 } : Room).cells ({ frames := 1, cells := 4, slots := 8, locals := 12 } : Room).slots o U') := by
  refine MetFree.of_bodySF (plainFor_of_name si4_pn) hisR ?_
  intro p e s m args below meth c s₁ Bd hml0 hP hK
  obtain ⟨rfl, hZ, hh, hCH, hSL⟩ := hP
  have hx := Bd.exec
  have hby := Bd.bytes
  have hml : c.maxLocals = 6 := hml0
  have hown : s.vm.findClass "java/lang/String" = some m.cls := findClass_of_methodNamed Bd.named
  have hnm := (name_of_methodNamed Bd.named Bd.method).1
  have X0 : Stand p l e ({ frames := 1, cells := 4, slots := 8, locals := 12 } : Room) (s.setVm s.vm) m #[(.ref a1), (.ref b1), (.int (0 : Int32)), (.int (0 : Int32)), .null] below meth c s₁ [] 0 0 := Stand.of_body Bd
  have e0 : s₁.heap = h0 := by rw [← hh, Bd.state]; rfl
  have N0 := Fr.nil n0
  have KP0 := Keep.refl h0 [a1]
  have hown : (s.setVm s.vm).vm.findClass "java/lang/String" = some m.cls := hown
  have hZ : Z.Warmed39 (s.setVm s.vm).vm := hZ
  have hS0 : s.Since s.vm 0 := (State.WarmedH.refl s).since 0
  have hk0 : 0 ≤ h0.size := Nat.zero_le _
  have CR0 : CHr Z own_EL s.vm h0 s.vm h0 := CHr.refl hCH
  have hEL := own_EW hw
  have sf_a1 := hSL a1 (List.mem_of_getElem? (i := 0) rfl)
  refine own_go (Q := (OwnEndW Z own_EL s (fun v h L => v = none ∧ Fr n0 L ∧ Keep h0 h [a1] ∧ OwnStr Z h a1 []) ({ frames := 1, cells := 4, slots := 8, locals := 12 } : Room).cells ({ frames := 1, cells := 4, slots := 8, locals := 12 } : Room).slots)) ?_
  refine own_back (fun t k => castTop (si4_ef m a1 b1 (0 : Int32) (0 : Int32)) k) ?_
  show OwnGo p e below (s₁.setTop (mkF m 0 #[.val (.ref a1), .val (.ref b1), .val (.int (0 : Int32)), .val (.int (0 : Int32)), .val .null, .unset] [])) _
  refine own_back (fun t k => XS.aloadN X0.here hx rfl (hb hby si4_d0) rfl rfl k) ?_
  show OwnGo p e below (s₁.setTop (mkF m 1 #[.val (.ref a1), .val (.ref b1), .val (.int (0 : Int32)), .val (.int (0 : Int32)), .val .null, .unset] [(.ref a1)])) _
  obtain ⟨T122, X122, e122, st122⟩ := initO X0 hx hZ hown (hw _ (List.mem_of_getElem? (i := 15) rfl)) (hw _ (List.mem_of_getElem? (i := 16) rfl)) (hw _ (List.mem_of_getElem? (i := 17) rfl)) e0 (g := (mkF m 1 #[.val (.ref a1), .val (.ref b1), .val (.int (0 : Int32)), .val (.int (0 : Int32)), .val .null, .unset] [(.ref a1)])) rfl (by rw [hml]; rfl) rfl (hb hby si4_d1) (by decide) (W := 0) (by show 2 * 0 + _ ≤ _; exact Nat.le_of_eq rfl) (by decide)
  refine own_back st122 ?_
  show OwnGo p e below (T122.setTop (mkF m 4 #[.val (.ref a1), .val (.ref b1), .val (.int (0 : Int32)), .val (.int (0 : Int32)), .val .null, .unset] [])) _
  refine own_back (fun t k => XS.iloadN X122.here hx rfl (hb hby si4_d4) rfl k) ?_
  show OwnGo p e below (T122.setTop (mkF m 5 #[.val (.ref a1), .val (.ref b1), .val (.int (0 : Int32)), .val (.int (0 : Int32)), .val .null, .unset] [(.int (0 : Int32))])) _
  refine own_back (fun t k => XS.ifNo X122.here hx rfl (hb hby si4_d5) rfl (Jvm.Free.XT.i0_ne_f (by decide)) k) ?_
  show OwnGo p e below (T122.setTop (mkF m 8 #[.val (.ref a1), .val (.ref b1), .val (.int (0 : Int32)), .val (.int (0 : Int32)), .val .null, .unset] [])) _
  refine own_back (fun t k => XS.aloadN X122.here hx rfl (hb hby si4_d8) rfl rfl k) ?_
  show OwnGo p e below (T122.setTop (mkF m 9 #[.val (.ref a1), .val (.ref b1), .val (.int (0 : Int32)), .val (.int (0 : Int32)), .val .null, .unset] [(.ref a1)])) _
  obtain ⟨a123, T123, h123, k1123, t123, kb123, X123, e123, E123, hS123, hk123, hZ123, hown123, EX123, FC123, FV123, AV123, la123, lb123, CRl123, hLit123, sx123, st123⟩ := ldcCH X122 hx hZ hown (hw _ (List.mem_of_getElem? (i := 18) rfl)) (own_wS hw) e122 hS0 hk0 hEL (List.mem_of_getElem? (i := 0) rfl) CR0.1 (vs := []) (z := 0) ⟨by decide, by decide⟩ (by decide) (by decide) (g := (mkF m 9 #[.val (.ref a1), .val (.ref b1), .val (.int (0 : Int32)), .val (.int (0 : Int32)), .val .null, .unset] [(.ref a1)])) rfl (hb hby si4_d9) (n := 0) (Nat.le_of_ble_eq_true rfl) (by decide) (Nat.le_of_ble_eq_true rfl) (Nat.le_of_ble_eq_true rfl)
  have O124 := OL.ext E123
  have KP125 := KP0.ext E123
  have Zs126 := Nat.le_trans Z0 E123.1
  have CR127 := CR0.trans CRl123
  have f128 := (CRl123.safe E1.lt sf_a1)
  have f129 := E1.ext E123
  have f130 := F1.ext E123
  have f131 := F2.ext E123
  refine own_back st123 ?_
  show OwnGo p e below (T123.setTop (mkF m 11 #[.val (.ref a1), .val (.ref b1), .val (.int (0 : Int32)), .val (.int (0 : Int32)), .val .null, .unset] [(.ref a123), (.ref a1)])) _
  obtain ⟨T132, X132, e132, st132⟩ := getF X123 hx hZ123 hown123 (host := "") (Or.inl (hw _ (List.mem_of_getElem? (i := 24) rfl))) Via.refl e123 FV123 (g := (mkF m 11 #[.val (.ref a1), .val (.ref b1), .val (.int (0 : Int32)), .val (.int (0 : Int32)), .val .null, .unset] [(.ref a123), (.ref a1)])) rfl rfl (hb hby si4_d11)
  refine own_back st132 ?_
  show OwnGo p e below (T132.setTop (mkF m 14 #[.val (.ref a1), .val (.ref b1), .val (.int (0 : Int32)), .val (.int (0 : Int32)), .val .null, .unset] [(.ref t123), (.ref a1)])) _
  obtain ⟨T133, h133, X133, e133, W133, st133⟩ := putF X132 hx hZ123 hown123 (host := "") (Or.inl (hw _ (List.mem_of_getElem? (i := 24) rfl))) Via.refl e132 f131 f129 (Or.inr ⟨(hw _ (List.mem_of_getElem? (i := 20) rfl)), rfl, hnm⟩) (hw _ (List.mem_of_getElem? (i := 6) rfl)) (ty := (.array .byte)) (by decide) rfl rfl (g := (mkF m 14 #[.val (.ref a1), .val (.ref b1), .val (.int (0 : Int32)), .val (.int (0 : Int32)), .val .null, .unset] [(.ref t123), (.ref a1)])) rfl rfl (hb hby si4_d14)
  have O134 := O124.wr W133 g1
  have KP135 := KP125.wr W133 (Or.inl (List.mem_of_getElem? (i := 0) rfl))
  have Zs136 := Nat.le_trans Zs126 (Keep.of_wr W133).1
  have CR137 := CR127.trans (CHr.wr W133 f128 CR127.1)
  have hk138 := Nat.le_trans hk123 (Keep.of_wr W133).1
  have f139 := (Safe.wr W133 f128 CR127.1 f128)
  have f140 := f129.wr W133
  have f141 := f130.other W133 (Or.inr (slot_ne (Or.inr (hw _ (List.mem_of_getElem? (i := 21) rfl))) (Or.inr (hw _ (List.mem_of_getElem? (i := 20) rfl))) (by decide) (t := .byte) (t' := (.array .byte)) (by decide) (by decide)))
  have f142 := EX123.wr W133
  have f143 := FC123.other W133 (Or.inl (Ne.symm (sx123 a1 f128).1))
  have f144 := FV123.other W133 (Or.inl (Ne.symm (sx123 a1 f128).1))
  have f145 := AV123.other W133 (Ne.symm (sx123 a1 f128).2)
  have F146 := f131.same W133
  have N147 := Fr.snoc X133 N0 g1
  refine own_back st133 ?_
  show OwnGo p e below (T133.setTop (mkF m 17 #[.val (.ref a1), .val (.ref b1), .val (.int (0 : Int32)), .val (.int (0 : Int32)), .val .null, .unset] [])) _
  refine own_back (fun t k => XS.aloadN X133.here hx rfl (hb hby si4_d17) rfl rfl k) ?_
  show OwnGo p e below (T133.setTop (mkF m 18 #[.val (.ref a1), .val (.ref b1), .val (.int (0 : Int32)), .val (.int (0 : Int32)), .val .null, .unset] [(.ref a1)])) _
  obtain ⟨a148, T148, h148, k1148, t148, kb148, X148, e148, E148, hS148, hk148, hZ148, hown148, EX148, FC148, FV148, AV148, la148, lb148, CRl148, hLit148, sx148, st148⟩ := ldcCH X133 hx hZ123 hown123 (hw _ (List.mem_of_getElem? (i := 18) rfl)) (own_wS hw) e133 hS123 hk138 hEL (List.mem_of_getElem? (i := 0) rfl) CR137.1 (vs := []) (z := 0) ⟨by decide, by decide⟩ (by decide) (by decide) (g := (mkF m 18 #[.val (.ref a1), .val (.ref b1), .val (.int (0 : Int32)), .val (.int (0 : Int32)), .val .null, .unset] [(.ref a1)])) rfl (hb hby si4_d18) (n := 0) (Nat.le_of_ble_eq_true rfl) (by decide) (Nat.le_of_ble_eq_true rfl) (Nat.le_of_ble_eq_true rfl)
  have O149 := O134.ext E148
  have KP150 := KP135.ext E148
  have Zs151 := Nat.le_trans Zs136 E148.1
  have CR152 := CR137.trans CRl148
  have f153 := (CRl148.safe f140.lt f139)
  have f154 := f140.ext E148
  have f155 := f141.ext E148
  have f156 := f142.ext E148
  have f157 := f143.ext E148
  have f158 := f144.ext E148
  have f159 := f145.ext E148
  have f160 := F146.ext E148
  refine own_back st148 ?_
  show OwnGo p e below (T148.setTop (mkF m 20 #[.val (.ref a1), .val (.ref b1), .val (.int (0 : Int32)), .val (.int (0 : Int32)), .val .null, .unset] [(.ref a148), (.ref a1)])) _
  obtain ⟨T161, X161, e161, st161⟩ := getF X148 hx hZ148 hown148 (host := "") (Or.inl (hw _ (List.mem_of_getElem? (i := 25) rfl))) Via.refl e148 FC148 (g := (mkF m 20 #[.val (.ref a1), .val (.ref b1), .val (.int (0 : Int32)), .val (.int (0 : Int32)), .val .null, .unset] [(.ref a148), (.ref a1)])) rfl rfl (hb hby si4_d20)
  refine own_back st161 ?_
  show OwnGo p e below (T161.setTop (mkF m 23 #[.val (.ref a1), .val (.ref b1), .val (.int (0 : Int32)), .val (.int (0 : Int32)), .val .null, .unset] [(.int (0 : Int32)), (.ref a1)])) _
  obtain ⟨T162, h162, X162, e162, W162, st162⟩ := putF X161 hx hZ148 hown148 (host := "") (Or.inl (hw _ (List.mem_of_getElem? (i := 25) rfl))) Via.refl e161 f155 f154 (Or.inr ⟨(hw _ (List.mem_of_getElem? (i := 21) rfl)), rfl, hnm⟩) (hw _ (List.mem_of_getElem? (i := 6) rfl)) (ty := .byte) (by decide) rfl rfl (g := (mkF m 23 #[.val (.ref a1), .val (.ref b1), .val (.int (0 : Int32)), .val (.int (0 : Int32)), .val .null, .unset] [(.int (0 : Int32)), (.ref a1)])) rfl rfl (hb hby si4_d23)
  have O163 := O149.wr W162 g1
  have KP164 := KP150.wr W162 (Or.inl (List.mem_of_getElem? (i := 0) rfl))
  have Zs165 := Nat.le_trans Zs151 (Keep.of_wr W162).1
  have CR166 := CR152.trans (CHr.wr W162 f153 CR152.1)
  have hk167 := Nat.le_trans hk148 (Keep.of_wr W162).1
  have f168 := (Safe.wr W162 f153 CR152.1 f153)
  have f169 := f154.wr W162
  have f170 := f156.wr W162
  have f171 := f157.other W162 (Or.inl (Ne.symm (sx123 a1 f128).1))
  have f172 := f158.other W162 (Or.inl (Ne.symm (sx123 a1 f128).1))
  have f173 := f159.other W162 (Ne.symm (sx123 a1 f128).2)
  have f174 := f160.other W162 (Or.inr (slot_ne (Or.inr (hw _ (List.mem_of_getElem? (i := 20) rfl))) (Or.inr (hw _ (List.mem_of_getElem? (i := 21) rfl))) (by decide) (t := (.array .byte)) (t' := .byte) (by decide) (by decide)))
  have f175 := EX148.wr W162
  have f176 := FC148.other W162 (Or.inl (Ne.symm (sx148 a1 f153).1))
  have f177 := FV148.other W162 (Or.inl (Ne.symm (sx148 a1 f153).1))
  have f178 := AV148.other W162 (Ne.symm (sx148 a1 f153).2)
  have F179 := f155.same W162
  have N180 := Fr.snoc X162 N147 g1
  refine own_back st162 ?_
  show OwnGo p e below (T162.setTop (mkF m 26 #[.val (.ref a1), .val (.ref b1), .val (.int (0 : Int32)), .val (.int (0 : Int32)), .val .null, .unset] [])) _
  refine own_retVW X162 hx Bd.notSynchronized Bd.returns hS148 hk167 hZ148 hEL (hh ▸ CR166) (hb hby si4_d26) e162 (Nat.le_of_ble_eq_true rfl) (Nat.le_of_ble_eq_true rfl) ?_
  exact ⟨rfl, N180, KP164, t123, _, f169, F179, f174, f173, Nat.le_of_ble_eq_true rfl⟩
theorem si1_d0 : decode jdk_42_method_3_code 0 = .ok (.aload_n 0, 1) := by decide +kernel
theorem si1_d1 : decode jdk_42_method_3_code 1 = .ok (.aload_n 1, 1) := by decide +kernel
theorem si1_d2 : decode jdk_42_method_3_code 2 = .ok (.iconst 0, 1) := by decide +kernel
theorem si1_d3 : decode jdk_42_method_3_code 3 = .ok (.aload_n 1, 1) := by decide +kernel
theorem si1_d4 : decode jdk_42_method_3_code 4 = .ok (.arraylength, 1) := by decide +kernel
theorem si1_d5 : decode jdk_42_method_3_code 5 = .ok (.aconst_null, 1) := by decide +kernel
theorem si1_d6 : decode jdk_42_method_3_code 6 = .ok (.invokespecial 27, 3) := by decide +kernel
theorem si1_d9 : decode jdk_42_method_3_code 9 = .ok (.return_, 1) := by decide +kernel
theorem si1_pn : plainName "java/lang/String" = true := by first | (simp [plainName, overriddenIn]; done) | decide +kernel
theorem si1_pd0 : parseMethodDescriptor "([CIILjava/lang/Void;)V" = some ⟨[(.array .char), .int, .int, (.object "java/lang/Void")], none⟩ := by decide +kernel
theorem si1_ef (m : MethodId) (x0 : Addr) (x1 : Addr) : entryFrame m #[(.ref x0), (.ref x1)] 2 = mkF m 0 #[.val (.ref x0), .val (.ref x1)] [] := by first | (simp [entryFrame, mkF, argsToLocals, Value.category]; done) | rfl
set_option maxRecDepth 65536 in
set_option maxHeartbeats 40000000 in
theorem rm_si1 (l : Launch) (Z : State) (a0 : Array Value) (hw : ∀ d ∈ tables_1, d.before a0 Z = true) (ws : List Jvm.Cond) (a1 : Addr) (b1 : Addr) (uc : Value) (uv : Value) (kc : ClassId) (h0 : Heap) (n0 : Nat) (Z0 : n0 ≤ h0.size) (OL : Old Z n0 h0) (E1 : Exa Z h0 a1 "java/lang/String") (F1 : Fld Z h0 a1 "java/lang/String" "coder" "B" uc) (F2 : Fld Z h0 a1 "java/lang/String" "value" "[B" uv) (g1 : n0 ≤ a1) (V1 : Arv Z h0 b1 kc .char (0 : Int32) [] (.int 0)) :
    MetFree l (⟨"java/lang/String", "<init>", "([C)V"⟩ : MethodName) (head1 (Jvm.Cond.code (⟨"java/lang/String", "<init>", "([C)V"⟩ : MethodName) jdk_42_method_3_code 2 none :: ws) ({ frames := 2, cells := 4, slots := 8, locals := 30 } : Room)) (fun a U => a = #[(.ref a1), (.ref b1)] ∧ Z.Warmed39 U.vm ∧ U.heap = h0 ∧ CHv Z own_EL U.vm h0 ∧ ∀ x ∈ ([a1] : List Addr), Safe Z own_EL U.vm h0 x) (fun _ _ _ _ _ => True) (fun _ U o U' => OwnEndW Z own_EL U (fun v h L => v = none ∧ Fr n0 L ∧ Keep h0 h [a1] ∧ OwnStr Z h a1 []) ({ frames := 2, cells := 4, slots := 8, locals := 30 } : Room).cells ({ frames := 2, cells := 4, slots := 8, locals := 30 } : Room).slots o U') := by
  refine MetFree.of_bodySF (plainFor_of_name si1_pn) hisR ?_
  intro p e s m args below meth c s₁ Bd hml0 hP hK
  obtain ⟨rfl, hZ, hh, hCH, hSL⟩ := hP
  have hx := Bd.exec
  have hby := Bd.bytes
  have hml : c.maxLocals = 2 := hml0
  have hown : s.vm.findClass "java/lang/String" = some m.cls := findClass_of_methodNamed Bd.named
  have hnm := (name_of_methodNamed Bd.named Bd.method).1
  have X0 : Stand p l e ({ frames := 2, cells := 4, slots := 8, locals := 30 } : Room) (s.setVm s.vm) m #[(.ref a1), (.ref b1)] below meth c s₁ [] 0 0 := Stand.of_body Bd
  have e0 : s₁.heap = h0 := by rw [← hh, Bd.state]; rfl
  have N0 := Fr.nil n0
  have KP0 := Keep.refl h0 [a1]
  have hown : (s.setVm s.vm).vm.findClass "java/lang/String" = some m.cls := hown
  have hZ : Z.Warmed39 (s.setVm s.vm).vm := hZ
  have hS0 : s.Since s.vm 0 := (State.WarmedH.refl s).since 0
  have hk0 : 0 ≤ h0.size := Nat.zero_le _
  have CR0 : CHr Z own_EL s.vm h0 s.vm h0 := CHr.refl hCH
  have hEL := own_EW hw
  have sf_a1 := hSL a1 (List.mem_of_getElem? (i := 0) rfl)
  refine own_go (Q := (OwnEndW Z own_EL s (fun v h L => v = none ∧ Fr n0 L ∧ Keep h0 h [a1] ∧ OwnStr Z h a1 []) ({ frames := 2, cells := 4, slots := 8, locals := 30 } : Room).cells ({ frames := 2, cells := 4, slots := 8, locals := 30 } : Room).slots)) ?_
  refine own_back (fun t k => castTop (si1_ef m a1 b1) k) ?_
  show OwnGo p e below (s₁.setTop (mkF m 0 #[.val (.ref a1), .val (.ref b1)] [])) _
  refine own_back (fun t k => XS.aloadN X0.here hx rfl (hb hby si1_d0) rfl rfl k) ?_
  show OwnGo p e below (s₁.setTop (mkF m 1 #[.val (.ref a1), .val (.ref b1)] [(.ref a1)])) _
  refine own_back (fun t k => XS.aloadN X0.here hx rfl (hb hby si1_d1) rfl rfl k) ?_
  show OwnGo p e below (s₁.setTop (mkF m 2 #[.val (.ref a1), .val (.ref b1)] [(.ref b1), (.ref a1)])) _
  refine own_back (fun t k => XS.iconst X0.here hx rfl (hb hby si1_d2) k) ?_
  show OwnGo p e below (s₁.setTop (mkF m 3 #[.val (.ref a1), .val (.ref b1)] [(.int (0 : Int32)), (.ref b1), (.ref a1)])) _
  refine own_back (fun t k => XS.aloadN X0.here hx rfl (hb hby si1_d3) rfl rfl k) ?_
  show OwnGo p e below (s₁.setTop (mkF m 4 #[.val (.ref a1), .val (.ref b1)] [(.ref b1), (.int (0 : Int32)), (.ref b1), (.ref a1)])) _
  obtain ⟨c181, A181, q181, S181, M181, H181, U181⟩ := id V1
  refine own_back (fun t k => X0.arraylength hx (own_hat e0 A181.1) (State.isArrayOf_alike hZ.alike A181.2.1) (g := (mkF m 4 #[.val (.ref a1), .val (.ref b1)] [(.ref b1), (.int (0 : Int32)), (.ref b1), (.ref a1)])) rfl rfl (hb hby si1_d4) t k) ?_
  rw [len_of S181 M181]
  show OwnGo p e below (s₁.setTop (mkF m 5 #[.val (.ref a1), .val (.ref b1)] [(.int (0 : Int32)), (.int (0 : Int32)), (.ref b1), (.ref a1)])) _
  refine own_back (fun t k => XS.aconstNull X0.here hx rfl (hb hby si1_d5) k) ?_
  show OwnGo p e below (s₁.setTop (mkF m 6 #[.val (.ref a1), .val (.ref b1)] [.null, (.int (0 : Int32)), (.int (0 : Int32)), (.ref b1), (.ref a1)])) _
  obtain ⟨_, _, ⟨T182, L182, k182, n182⟩, -, X182, hSn182, hgr182, ⟨Lc182, hQ182, l182, y182, z182, CRn182⟩, st182⟩ := X0.specialBackS hx (y := (⟨"java/lang/String", "<init>", "([CIILjava/lang/Void;)V"⟩ : MethodName)) rfl hown (mvT hZ (hw _ (List.mem_of_getElem? (i := 11) rfl))) (mvT hZ (hw _ (List.mem_of_getElem? (i := 12) rfl))) (mvT hZ (hw _ (List.mem_of_getElem? (i := 14) rfl))) (by decide) (own_backH (W := 0) (rm_si4 l Z a0 hw [] a1 b1 uc uv h0 n0 Z0 OL E1 F1 F2 g1) hZ (hw _ (List.mem_of_getElem? (i := 14) rfl)) (hw _ (List.mem_of_getElem? (i := 7) rfl)) (by decide) (by decide) hEL CR0.1 (sfS sf_a1 sf0) (allS E1.lt all0)) (g := (mkF m 6 #[.val (.ref a1), .val (.ref b1)] [.null, (.int (0 : Int32)), (.int (0 : Int32)), (.ref b1), (.ref a1)])) rfl (by rw [hml]; rfl) (Steps.refl _) (a := a1) (argsL := [(.ref b1), (.int (0 : Int32)), (.int (0 : Int32)), .null]) (rest := []) (lenOf si1_pd0 rfl) rfl (by show 2 * 0 + _ ≤ _; exact Nat.le_of_eq rfl) (hb hby si1_d6) (fun _ _ => ⟨rfl, e0, Nat.le_of_ble_eq_true rfl, Nat.le_of_ble_eq_true rfl⟩)
  dsimp only [Pt.U, Pt.locs, Pt.cells, Pt.slots] at X182 l182 y182 z182 st182 hQ182 hSn182 hgr182 CRn182
  subst l182 y182 z182
  obtain ⟨Xr182, hSr182, hZr182, hownr182⟩ := rebS hS0 (own_hle e0 hk0) X182 hSn182 hgr182 hZ hown
  obtain ⟨rfl, N182q, K182, B182⟩ := hQ182
  refine own_seq st182 ?_
  have N182 := Fr.app N0 N182q
  show OwnGo p e below (T182.setTop (mkF m 9 #[.val (.ref a1), .val (.ref b1)] [])) _
  refine own_retVW Xr182 hx Bd.notSynchronized Bd.returns hSr182 (Nat.le_refl _) hZr182 hEL (hh ▸ (CR0.trans CRn182)) (hb hby si1_d9) rfl (Nat.le_of_ble_eq_true rfl) (Nat.le_of_ble_eq_true rfl) ?_
  exact ⟨rfl, N182, K182, B182⟩
theorem va_d0 : decode prog_6_method_1_code 0 = .ok (.getstatic 10, 3) := by decide +kernel
theorem va_d3 : decode prog_6_method_1_code 3 = .ok (.invokevirtual 14, 3) := by decide +kernel
theorem va_d6 : decode prog_6_method_1_code 6 = .ok (.checkcast 15, 3) := by decide +kernel
theorem va_d9 : decode prog_6_method_1_code 9 = .ok (.areturn, 1) := by decide +kernel
theorem va_pn : plainName "com/example/indexwright/indexwright/bond/BondVariant" = true := by first | (simp [plainName, overriddenIn]; done) | decide +kernel
theorem va_ef (m : MethodId)  : entryFrame m #[] 0 = mkF m 0 #[] [] := by first | (simp [entryFrame, mkF, argsToLocals, Value.category]; done) | rfl
set_option maxRecDepth 65536 in
set_option maxHeartbeats 40000000 in
theorem rm_val (l : Launch) (Z : State) (a0 : Array Value) (hw : ∀ d ∈ tables_1, d.before a0 Z = true) (ws : List Jvm.Cond) (wP : Addr) (wT : Addr) (wV : Addr) (kV : ClassId) (kP : Addr) (kT : Addr) (cz : Int32) (h0 : Heap) (n0 : Nat) (Z0 : n0 ≤ h0.size) (OL : Old Z n0 h0) (SV : Sta Z Z.heap "com/example/indexwright/indexwright/bond/BondVariant" "$VALUES" "[Lcom/example/indexwright/indexwright/bond/BondVariant;" (.ref wV)) (AV : Arv Z Z.heap wV kV (.object "com/example/indexwright/indexwright/bond/BondVariant") 2 [.ref wP, .ref wT] .null) (EV : Exa Z Z.heap wV "[Lcom/example/indexwright/indexwright/bond/BondVariant;") (FV : ∀ c, Z.heap[wV]? = some c → FitC Z c) (FP : Fld Z Z.heap wP "com/example/indexwright/indexwright/bond/BondVariant" "key" "Ljava/lang/String;" (.ref kP)) (FT : Fld Z Z.heap wT "com/example/indexwright/indexwright/bond/BondVariant" "key" "Ljava/lang/String;" (.ref kT)) (BP : OwnStr Z Z.heap kP [112, 114, 105, 99, 101]) (BT : OwnStr Z Z.heap kT [116, 111, 116, 97, 108]) (SC : Sta Z Z.heap "java/lang/String" "COMPACT_STRINGS" "Z" (.int cz)) (hcz : ¬ cz = 0) :
    MetFree l (⟨"com/example/indexwright/indexwright/bond/BondVariant", "values", "()[Lcom/example/indexwright/indexwright/bond/BondVariant;"⟩ : MethodName) (head1 (Jvm.Cond.code (⟨"com/example/indexwright/indexwright/bond/BondVariant", "values", "()[Lcom/example/indexwright/indexwright/bond/BondVariant;"⟩ : MethodName) prog_6_method_1_code 0 (some (.array (.object "com/example/indexwright/indexwright/bond/BondVariant"))) :: ws) ({ frames := 1, cells := 1, slots := 2, locals := 14 } : Room)) (fun a U => a = #[] ∧ Z.Warmed39 U.vm ∧ U.heap = h0) (fun _ _ _ _ _ => True) (fun _ U o U' => OwnEnd U (fun v h L => ∃ a, v = some (.ref a) ∧ Fr n0 L ∧ Ext h0 h ∧ Arv Z h a kV (.object "com/example/indexwright/indexwright/bond/BondVariant") 2 [.ref wP, .ref wT] .null ∧ h0.size ≤ a) ({ frames := 1, cells := 1, slots := 2, locals := 14 } : Room).cells ({ frames := 1, cells := 1, slots := 2, locals := 14 } : Room).slots o U') := by
  refine MetFree.of_bodySF (plainFor_of_name va_pn) hisR ?_
  intro p e s m args below meth c s₁ Bd hml0 hP hK
  obtain ⟨rfl, hZ, hh⟩ := hP
  have hx := Bd.exec
  have hby := Bd.bytes
  have hml : c.maxLocals = 0 := hml0
  have hown : s.vm.findClass "com/example/indexwright/indexwright/bond/BondVariant" = some m.cls := findClass_of_methodNamed Bd.named
  have hnm := (name_of_methodNamed Bd.named Bd.method).1
  have X0 : Stand p l e ({ frames := 1, cells := 1, slots := 2, locals := 14 } : Room) s m #[] below meth c s₁ [] 0 0 := Stand.of_body Bd
  have e0 : s₁.heap = h0 := by rw [← hh, Bd.state]; rfl
  have N0 := Fr.nil n0
  have KP0 := Keep.refl h0 []
  refine own_go (Q := (OwnEnd s (fun v h L => ∃ a, v = some (.ref a) ∧ Fr n0 L ∧ Ext h0 h ∧ Arv Z h a kV (.object "com/example/indexwright/indexwright/bond/BondVariant") 2 [.ref wP, .ref wT] .null ∧ h0.size ≤ a) ({ frames := 1, cells := 1, slots := 2, locals := 14 } : Room).cells ({ frames := 1, cells := 1, slots := 2, locals := 14 } : Room).slots)) ?_
  refine own_back (fun t k => castTop (va_ef m ) k) ?_
  show OwnGo p e below (s₁.setTop (mkF m 0 #[] [])) _
  obtain ⟨T183, X183, e183, st183⟩ := getS2 X0 hx hZ hown (host := "") (Or.inl (hw _ (List.mem_of_getElem? (i := 33) rfl))) Via.refl e0 (SV.ext OL.2) (g := (mkF m 0 #[] [])) rfl (hb hby va_d0)
  refine own_back st183 ?_
  show OwnGo p e below (T183.setTop (mkF m 3 #[] [(.ref wV)])) _
  obtain ⟨cv, Av, qv, Sv, Mv, Hv, Uv⟩ := id AV
  obtain ⟨T184, h184, X184, e184, E184, A184, EX184, st184⟩ := cloneA X183 hx hZ hown (hw _ (List.mem_of_getElem? (i := 35) rfl)) (hw _ (List.mem_of_getElem? (i := 36) rfl)) (hw _ (List.mem_of_getElem? (i := 40) rfl)) (hw _ (List.mem_of_getElem? (i := 38) rfl)) (hw _ (List.mem_of_getElem? (i := 39) rfl)) (hw _ (List.mem_of_getElem? (i := 41) rfl)) e183 (Av.ext OL.2) (EV.ext OL.2) (FV _ Av.1) (g := (mkF m 3 #[] [(.ref wV)])) rfl (by rw [hml]; rfl) rfl (hb hby va_d3) (by decide) (W := 0) (cap := 2) (by show 2 * 0 + _ ≤ _; exact Nat.le_of_eq rfl) (by decide) (by rw [Sv]; decide) (Nat.le_of_ble_eq_true rfl) (Nat.le_of_ble_eq_true rfl)
  obtain ⟨b184, g184⟩ : ∃ z, z = h0.size := ⟨_, rfl⟩
  have ge185 : n0 ≤ b184 := Nat.le_trans Z0 (Nat.le_of_eq g184.symm)
  have sz186 : h0.size ≤ b184 := Nat.le_trans KP0.1 (Nat.le_of_eq g184.symm)
  rw [← g184] at A184 EX184 st184
  have O187 := OL.ext E184
  have KP188 := KP0.ext E184
  have Zs189 := Nat.le_trans Z0 E184.1
  have V190 : Arv Z h184 b184 kV (.object "com/example/indexwright/indexwright/bond/BondVariant") 2 [.ref wP, .ref wT] .null := ⟨_, A184, qv, Sv, Mv, Hv, Uv⟩
  refine own_back st184 ?_
  show OwnGo p e below (T184.setTop (mkF m 6 #[] [(.ref b184)])) _
  obtain ⟨T191, X191, e191, st191⟩ := castY X184 hx hZ hown (hw _ (List.mem_of_getElem? (i := 45) rfl)) e184 (Ins.self EX184) (g := (mkF m 6 #[] [(.ref b184)])) rfl rfl (hb hby va_d6)
  refine own_back st191 ?_
  show OwnGo p e below (T191.setTop (mkF m 9 #[] [(.ref b184)])) _
  refine own_retA X191 hx Bd.notSynchronized Bd.returns rfl rfl (hb hby va_d9) e191 (Nat.le_of_ble_eq_true rfl) (Nat.le_of_ble_eq_true rfl) ?_
  exact ⟨b184, rfl, N0, own_ext KP188, V190, sz186⟩
theorem of_d0 : decode prog_6_method_5_code 0 = .ok (.invokestatic 33, 3) := by decide +kernel
theorem of_d3 : decode prog_6_method_5_code 3 = .ok (.astore_n 1, 1) := by decide +kernel
theorem of_d4 : decode prog_6_method_5_code 4 = .ok (.aload_n 1, 1) := by decide +kernel
theorem of_d5 : decode prog_6_method_5_code 5 = .ok (.arraylength, 1) := by decide +kernel
theorem of_d6 : decode prog_6_method_5_code 6 = .ok (.istore_n 2, 1) := by decide +kernel
theorem of_d7 : decode prog_6_method_5_code 7 = .ok (.iconst 0, 1) := by decide +kernel
theorem of_d8 : decode prog_6_method_5_code 8 = .ok (.istore_n 3, 1) := by decide +kernel
theorem of_d9 : decode prog_6_method_5_code 9 = .ok (.iload_n 3, 1) := by decide +kernel
theorem of_d10 : decode prog_6_method_5_code 10 = .ok (.iload_n 2, 1) := by decide +kernel
theorem of_d11 : decode prog_6_method_5_code 11 = .ok (.if_icmp .ge 29, 3) := by decide +kernel
theorem of_d14 : decode prog_6_method_5_code 14 = .ok (.aload_n 1, 1) := by decide +kernel
theorem of_d15 : decode prog_6_method_5_code 15 = .ok (.iload_n 3, 1) := by decide +kernel
theorem of_d16 : decode prog_6_method_5_code 16 = .ok (.aaload, 1) := by decide +kernel
theorem of_d17 : decode prog_6_method_5_code 17 = .ok (.astore 4, 2) := by decide +kernel
theorem of_d19 : decode prog_6_method_5_code 19 = .ok (.aload 4, 2) := by decide +kernel
theorem of_d21 : decode prog_6_method_5_code 21 = .ok (.getfield 29, 3) := by decide +kernel
theorem of_d24 : decode prog_6_method_5_code 24 = .ok (.aload_n 0, 1) := by decide +kernel
theorem of_d25 : decode prog_6_method_5_code 25 = .ok (.invokevirtual 37, 3) := by decide +kernel
theorem of_d28 : decode prog_6_method_5_code 28 = .ok (.ifCond .eq 6, 3) := by decide +kernel
theorem of_d31 : decode prog_6_method_5_code 31 = .ok (.aload 4, 2) := by decide +kernel
theorem of_d33 : decode prog_6_method_5_code 33 = .ok (.areturn, 1) := by decide +kernel
theorem of_d34 : decode prog_6_method_5_code 34 = .ok (.iinc 3 1, 3) := by decide +kernel
theorem of_d37 : decode prog_6_method_5_code 37 = .ok (.goto (-28), 3) := by decide +kernel
theorem of_d40 : decode prog_6_method_5_code 40 = .ok (.aconst_null, 1) := by decide +kernel
theorem of_d41 : decode prog_6_method_5_code 41 = .ok (.areturn, 1) := by decide +kernel
theorem of_pn : plainName "com/example/indexwright/indexwright/bond/BondVariant" = true := by first | (simp [plainName, overriddenIn]; done) | decide +kernel
theorem of_pd0 : parseMethodDescriptor "()[Lcom/example/indexwright/indexwright/bond/BondVariant;" = some ⟨[], some (.array (.object "com/example/indexwright/indexwright/bond/BondVariant"))⟩ := by decide +kernel
theorem of_pd1 : parseMethodDescriptor "(Ljava/lang/Object;)Z" = some ⟨[(.object "java/lang/Object")], some .boolean⟩ := by decide +kernel
theorem of_ef (m : MethodId) (x0 : Addr) : entryFrame m #[(.ref x0)] 5 = mkF m 0 #[.val (.ref x0), .unset, .unset, .unset, .unset] [] := by first | (simp [entryFrame, mkF, argsToLocals, Value.category]; done) | rfl
set_option maxRecDepth 65536 in
set_option maxHeartbeats 40000000 in
theorem rm_of (l : Launch) (Z : State) (a0 : Array Value) (hw : ∀ d ∈ tables_1, d.before a0 Z = true) (ws : List Jvm.Cond) (a1 : Addr) (bs : List Int32) (wP : Addr) (wT : Addr) (wV : Addr) (kV : ClassId) (kP : Addr) (kT : Addr) (cz : Int32) (h0 : Heap) (n0 : Nat) (Z0 : n0 ≤ h0.size) (OL : Old Z n0 h0) (B1 : OwnStr Z h0 a1 bs) (SV : Sta Z Z.heap "com/example/indexwright/indexwright/bond/BondVariant" "$VALUES" "[Lcom/example/indexwright/indexwright/bond/BondVariant;" (.ref wV)) (AV : Arv Z Z.heap wV kV (.object "com/example/indexwright/indexwright/bond/BondVariant") 2 [.ref wP, .ref wT] .null) (EV : Exa Z Z.heap wV "[Lcom/example/indexwright/indexwright/bond/BondVariant;") (FV : ∀ c, Z.heap[wV]? = some c → FitC Z c) (FP : Fld Z Z.heap wP "com/example/indexwright/indexwright/bond/BondVariant" "key" "Ljava/lang/String;" (.ref kP)) (FT : Fld Z Z.heap wT "com/example/indexwright/indexwright/bond/BondVariant" "key" "Ljava/lang/String;" (.ref kT)) (BP : OwnStr Z Z.heap kP [112, 114, 105, 99, 101]) (BT : OwnStr Z Z.heap kT [116, 111, 116, 97, 108]) (SC : Sta Z Z.heap "java/lang/String" "COMPACT_STRINGS" "Z" (.int cz)) (hcz : ¬ cz = 0) :
    MetFree l (⟨"com/example/indexwright/indexwright/bond/BondVariant", "of", "(Ljava/lang/String;)Lcom/example/indexwright/indexwright/bond/BondVariant;"⟩ : MethodName) (head1 (Jvm.Cond.code (⟨"com/example/indexwright/indexwright/bond/BondVariant", "of", "(Ljava/lang/String;)Lcom/example/indexwright/indexwright/bond/BondVariant;"⟩ : MethodName) prog_6_method_5_code 5 (some (.object "com/example/indexwright/indexwright/bond/BondVariant")) :: ws) ({ frames := 3, cells := 1, slots := 2, locals := 50 } : Room)) (fun a U => a = #[(.ref a1)] ∧ Z.Warmed39 U.vm ∧ U.heap = h0) (fun _ _ _ _ _ => True) (fun _ U o U' => OwnEnd U (fun v h L => v = some (if [112, 114, 105, 99, 101] = bs then .ref wP else if [116, 111, 116, 97, 108] = bs then .ref wT else .null) ∧ Fr n0 L ∧ Ext h0 h) ({ frames := 3, cells := 1, slots := 2, locals := 50 } : Room).cells ({ frames := 3, cells := 1, slots := 2, locals := 50 } : Room).slots o U') := by
  refine MetFree.of_bodySF (plainFor_of_name of_pn) hisR ?_
  intro p e s m args below meth c s₁ Bd hml0 hP hK
  obtain ⟨rfl, hZ, hh⟩ := hP
  have hx := Bd.exec
  have hby := Bd.bytes
  have hml : c.maxLocals = 5 := hml0
  have hown : s.vm.findClass "com/example/indexwright/indexwright/bond/BondVariant" = some m.cls := findClass_of_methodNamed Bd.named
  have hnm := (name_of_methodNamed Bd.named Bd.method).1
  have X0 : Stand p l e ({ frames := 3, cells := 1, slots := 2, locals := 50 } : Room) s m #[(.ref a1)] below meth c s₁ [] 0 0 := Stand.of_body Bd
  have e0 : s₁.heap = h0 := by rw [← hh, Bd.state]; rfl
  have N0 := Fr.nil n0
  have KP0 := Keep.refl h0 []
  refine own_go (Q := (OwnEnd s (fun v h L => v = some (if [112, 114, 105, 99, 101] = bs then .ref wP else if [116, 111, 116, 97, 108] = bs then .ref wT else .null) ∧ Fr n0 L ∧ Ext h0 h) ({ frames := 3, cells := 1, slots := 2, locals := 50 } : Room).cells ({ frames := 3, cells := 1, slots := 2, locals := 50 } : Room).slots)) ?_
  refine own_back (fun t k => castTop (of_ef m a1) k) ?_
  show OwnGo p e below (s₁.setTop (mkF m 0 #[.val (.ref a1), .unset, .unset, .unset, .unset] [])) _
  obtain ⟨_, _, ⟨T192, L192, k192, n192⟩, -, X192, ⟨Lc192, hQ192, l192, y192, z192⟩, st192⟩ := Jvm.LawKit.callS X0 hx (y := (⟨"com/example/indexwright/indexwright/bond/BondVariant", "values", "()[Lcom/example/indexwright/indexwright/bond/BondVariant;"⟩ : MethodName)) hown (mvT hZ (hw _ (List.mem_of_getElem? (i := 30) rfl))) (mvT hZ (hw _ (List.mem_of_getElem? (i := 31) rfl))) (mvT hZ (hw _ (List.mem_of_getElem? (i := 28) rfl))) (mvT hZ (hw _ (List.mem_of_getElem? (i := 32) rfl))) (by decide) (own_backN (W := 0) (rm_val l Z a0 hw [] wP wT wV kV kP kT cz h0 n0 Z0 OL SV AV EV FV FP FT BP BT SC hcz) hZ (hw _ (List.mem_of_getElem? (i := 32) rfl)) (hw _ (List.mem_of_getElem? (i := 28) rfl)) (by decide) (by decide)) (g := (mkF m 0 #[.val (.ref a1), .unset, .unset, .unset, .unset] [])) rfl (by rw [hml]; rfl) (argsL := []) (rest := []) (lenOf of_pd0 rfl) rfl (by show 2 * 0 + _ ≤ _; exact Nat.le_of_eq rfl) (hb hby of_d0) (fun _ _ => ⟨rfl, e0, Nat.le_of_ble_eq_true rfl, Nat.le_of_ble_eq_true rfl⟩)
  dsimp only [Pt.U, Pt.locs, Pt.cells, Pt.slots] at X192 l192 y192 z192 st192 hQ192
  subst l192 y192 z192
  obtain ⟨ab192, rfl, N192q, E192, V192, s192⟩ := hQ192
  refine own_back st192 ?_
  have N192 := Fr.app N0 N192q
  have O193 := OL.ext E192
  have KP194 := KP0.ext E192
  have Zs195 := Nat.le_trans Z0 E192.1
  have ge196 := Nat.le_trans Z0 s192
  have sz197 := Nat.le_trans KP0.1 s192
  show OwnGo p e below (T192.setTop (mkF m 3 #[.val (.ref a1), .unset, .unset, .unset, .unset] [(.ref ab192)])) _
  refine own_back (fun t k => XS.astoreN X192.here hx rfl (hb hby of_d3) rfl rfl (l' := #[.val (.ref a1), .val (.ref ab192), .unset, .unset, .unset]) rfl k) ?_
  show OwnGo p e below (T192.setTop (mkF m 4 #[.val (.ref a1), .val (.ref ab192), .unset, .unset, .unset] [])) _
  refine own_back (fun t k => XS.aloadN X192.here hx rfl (hb hby of_d4) rfl rfl k) ?_
  show OwnGo p e below (T192.setTop (mkF m 5 #[.val (.ref a1), .val (.ref ab192), .unset, .unset, .unset] [(.ref ab192)])) _
  obtain ⟨c198, A198, q198, S198, M198, H198, U198⟩ := id V192
  refine own_back (fun t k => X192.arraylength hx (own_hat rfl A198.1) (State.isArrayOf_alike hZ.alike A198.2.1) (g := (mkF m 5 #[.val (.ref a1), .val (.ref ab192), .unset, .unset, .unset] [(.ref ab192)])) rfl rfl (hb hby of_d5) t k) ?_
  rw [len_of S198 M198]
  show OwnGo p e below (T192.setTop (mkF m 6 #[.val (.ref a1), .val (.ref ab192), .unset, .unset, .unset] [(.int (2 : Int32))])) _
  refine own_back (fun t k => XS.istoreN X192.here hx rfl (hb hby of_d6) rfl (l' := #[.val (.ref a1), .val (.ref ab192), .val (.int (2 : Int32)), .unset, .unset]) rfl k) ?_
  show OwnGo p e below (T192.setTop (mkF m 7 #[.val (.ref a1), .val (.ref ab192), .val (.int (2 : Int32)), .unset, .unset] [])) _
  refine own_back (fun t k => XS.iconst X192.here hx rfl (hb hby of_d7) k) ?_
  show OwnGo p e below (T192.setTop (mkF m 8 #[.val (.ref a1), .val (.ref ab192), .val (.int (2 : Int32)), .unset, .unset] [(.int (0 : Int32))])) _
  refine own_back (fun t k => XS.istoreN X192.here hx rfl (hb hby of_d8) rfl (l' := #[.val (.ref a1), .val (.ref ab192), .val (.int (2 : Int32)), .val (.int (0 : Int32)), .unset]) rfl k) ?_
  show OwnGo p e below (T192.setTop (mkF m 9 #[.val (.ref a1), .val (.ref ab192), .val (.int (2 : Int32)), .val (.int (0 : Int32)), .unset] [])) _
  refine own_back (fun t k => XS.iloadN X192.here hx rfl (hb hby of_d9) rfl k) ?_
  show OwnGo p e below (T192.setTop (mkF m 10 #[.val (.ref a1), .val (.ref ab192), .val (.int (2 : Int32)), .val (.int (0 : Int32)), .unset] [(.int (0 : Int32))])) _
  refine own_back (fun t k => XS.iloadN X192.here hx rfl (hb hby of_d10) rfl k) ?_
  show OwnGo p e below (T192.setTop (mkF m 11 #[.val (.ref a1), .val (.ref ab192), .val (.int (2 : Int32)), .val (.int (0 : Int32)), .unset] [(.int (2 : Int32)), (.int (0 : Int32))])) _
  refine own_back (fun t k => XS.icmpNo X192.here hx rfl (hb hby of_d11) rfl (Jvm.Free.XT.ii_ge_f (by decide)) k) ?_
  show OwnGo p e below (T192.setTop (mkF m 14 #[.val (.ref a1), .val (.ref ab192), .val (.int (2 : Int32)), .val (.int (0 : Int32)), .unset] [])) _
  refine own_back (fun t k => XS.aloadN X192.here hx rfl (hb hby of_d14) rfl rfl k) ?_
  show OwnGo p e below (T192.setTop (mkF m 15 #[.val (.ref a1), .val (.ref ab192), .val (.int (2 : Int32)), .val (.int (0 : Int32)), .unset] [(.ref ab192)])) _
  refine own_back (fun t k => XS.iloadN X192.here hx rfl (hb hby of_d15) rfl k) ?_
  show OwnGo p e below (T192.setTop (mkF m 16 #[.val (.ref a1), .val (.ref ab192), .val (.int (2 : Int32)), .val (.int (0 : Int32)), .unset] [(.int (0 : Int32)), (.ref ab192)])) _
  obtain ⟨c199, A199, q199, S199, M199, H199, U199⟩ := id V192
  have ib200 : ¬ ((0 : Int32) < 0 ∨ c199.slots.size ≤ ((0 : Int32)).toNatClampNeg) := (inb_of S199 ⟨by decide, by decide⟩)
  refine own_back (fun t k => X192.aaload hx (j := (0 : Int32)) (v := (.ref wP)) (own_hat rfl A199.1) (State.isArrayOf_alike hZ.alike A199.2.1) rfl A199.2.2 ib200 (H199.at ib200 rfl) (g := (mkF m 16 #[.val (.ref a1), .val (.ref ab192), .val (.int (2 : Int32)), .val (.int (0 : Int32)), .unset] [(.int (0 : Int32)), (.ref ab192)])) rfl rfl (hb hby of_d16) t k) ?_
  show OwnGo p e below (T192.setTop (mkF m 17 #[.val (.ref a1), .val (.ref ab192), .val (.int (2 : Int32)), .val (.int (0 : Int32)), .unset] [(.ref wP)])) _
  refine own_back (fun t k => XS.astore X192.here hx rfl (hb hby of_d17) rfl rfl (l' := #[.val (.ref a1), .val (.ref ab192), .val (.int (2 : Int32)), .val (.int (0 : Int32)), .val (.ref wP)]) rfl k) ?_
  show OwnGo p e below (T192.setTop (mkF m 19 #[.val (.ref a1), .val (.ref ab192), .val (.int (2 : Int32)), .val (.int (0 : Int32)), .val (.ref wP)] [])) _
  refine own_back (fun t k => XS.aload X192.here hx rfl (hb hby of_d19) rfl rfl k) ?_
  show OwnGo p e below (T192.setTop (mkF m 21 #[.val (.ref a1), .val (.ref ab192), .val (.int (2 : Int32)), .val (.int (0 : Int32)), .val (.ref wP)] [(.ref wP)])) _
  obtain ⟨T201, X201, e201, st201⟩ := getF X192 hx hZ hown (host := "") (Or.inl (hw _ (List.mem_of_getElem? (i := 47) rfl))) Via.refl rfl (FP.ext O193.2) (g := (mkF m 21 #[.val (.ref a1), .val (.ref ab192), .val (.int (2 : Int32)), .val (.int (0 : Int32)), .val (.ref wP)] [(.ref wP)])) rfl rfl (hb hby of_d21)
  refine own_back st201 ?_
  show OwnGo p e below (T201.setTop (mkF m 24 #[.val (.ref a1), .val (.ref ab192), .val (.int (2 : Int32)), .val (.int (0 : Int32)), .val (.ref wP)] [(.ref kP)])) _
  refine own_back (fun t k => XS.aloadN X201.here hx rfl (hb hby of_d24) rfl rfl k) ?_
  show OwnGo p e below (T201.setTop (mkF m 25 #[.val (.ref a1), .val (.ref ab192), .val (.int (2 : Int32)), .val (.int (0 : Int32)), .val (.ref wP)] [(.ref a1), (.ref kP)])) _
  by_cases hP : ([112, 114, 105, 99, 101] : List Int32) = bs
  · obtain ⟨cq202, kq202, q202a, q202b, q202c⟩ := isOf hZ e201 (BP.ext O193.2).exa
    obtain ⟨_, _, ⟨T202, L202, k202, n202⟩, -, X202, ⟨Lc202, hQ202, l202, y202, z202⟩, st202⟩ := X201.virtualBack hx (y := (⟨"java/lang/String", "equals", "(Ljava/lang/Object;)Z"⟩ : MethodName)) (z := (⟨"java/lang/String", "equals", "(Ljava/lang/Object;)Z"⟩ : MethodName)) hown (mvT hZ (hw _ (List.mem_of_getElem? (i := 49) rfl))) (mvT hZ (hw _ (List.mem_of_getElem? (i := 50) rfl))) (notFace_of_selects (args := #[]) (mvT hZ (hw _ (List.mem_of_getElem? (i := 52) rfl)))) (mvT hZ (hw _ (List.mem_of_getElem? (i := 52) rfl))) (mvT hZ (hw _ (List.mem_of_getElem? (i := 51) rfl))) (by decide) (own_backN (W := 0) (rm_seq l Z a0 hw [] kP a1 [112, 114, 105, 99, 101] bs cz T192.heap n0 Zs195 O193 (BP.ext O193.2) (B1.ext (own_ext KP194)) SC hcz) hZ (hw _ (List.mem_of_getElem? (i := 53) rfl)) (hw _ (List.mem_of_getElem? (i := 7) rfl)) (by decide) (by decide)) q202a q202c (g := (mkF m 25 #[.val (.ref a1), .val (.ref ab192), .val (.int (2 : Int32)), .val (.int (0 : Int32)), .val (.ref wP)] [(.ref a1), (.ref kP)])) rfl (by rw [hml]; rfl) (Steps.refl _) (argsL := [(.ref a1)]) (rest := []) (lenOf of_pd1 rfl) rfl (by show 2 * 0 + _ ≤ _; exact Nat.le_of_eq rfl) (hb hby of_d25) (fun _ _ => ⟨rfl, e201, Nat.le_of_ble_eq_true rfl, Nat.le_of_ble_eq_true rfl⟩)
    dsimp only [Pt.U, Pt.locs, Pt.cells, Pt.slots] at X202 l202 y202 z202 st202 hQ202
    subst l202 y202 z202
    rw [if_pos hP] at hQ202
    obtain ⟨rfl, N202q, hh202⟩ := hQ202
    refine own_seq st202 ?_
    have N202 := Fr.app N192 N202q
    show OwnGo p e below (T202.setTop (mkF m 28 #[.val (.ref a1), .val (.ref ab192), .val (.int (2 : Int32)), .val (.int (0 : Int32)), .val (.ref wP)] [(.int (1 : Int32))])) _
    refine own_back (fun t k => XS.ifNo X202.here hx rfl (hb hby of_d28) rfl (Jvm.Free.XT.i0_eq_f (by decide)) k) ?_
    show OwnGo p e below (T202.setTop (mkF m 31 #[.val (.ref a1), .val (.ref ab192), .val (.int (2 : Int32)), .val (.int (0 : Int32)), .val (.ref wP)] [])) _
    refine own_back (fun t k => XS.aload X202.here hx rfl (hb hby of_d31) rfl rfl k) ?_
    show OwnGo p e below (T202.setTop (mkF m 33 #[.val (.ref a1), .val (.ref ab192), .val (.int (2 : Int32)), .val (.int (0 : Int32)), .val (.ref wP)] [(.ref wP)])) _
    refine own_retA X202 hx Bd.notSynchronized Bd.returns rfl rfl (hb hby of_d33) hh202 (Nat.le_of_ble_eq_true rfl) (Nat.le_of_ble_eq_true rfl) ?_
    exact ⟨by rw [if_pos hP], N202, own_ext KP194⟩
  · obtain ⟨cq203, kq203, q203a, q203b, q203c⟩ := isOf hZ e201 (BP.ext O193.2).exa
    obtain ⟨_, _, ⟨T203, L203, k203, n203⟩, -, X203, ⟨Lc203, hQ203, l203, y203, z203⟩, st203⟩ := X201.virtualBack hx (y := (⟨"java/lang/String", "equals", "(Ljava/lang/Object;)Z"⟩ : MethodName)) (z := (⟨"java/lang/String", "equals", "(Ljava/lang/Object;)Z"⟩ : MethodName)) hown (mvT hZ (hw _ (List.mem_of_getElem? (i := 49) rfl))) (mvT hZ (hw _ (List.mem_of_getElem? (i := 50) rfl))) (notFace_of_selects (args := #[]) (mvT hZ (hw _ (List.mem_of_getElem? (i := 52) rfl)))) (mvT hZ (hw _ (List.mem_of_getElem? (i := 52) rfl))) (mvT hZ (hw _ (List.mem_of_getElem? (i := 51) rfl))) (by decide) (own_backN (W := 0) (rm_seq l Z a0 hw [] kP a1 [112, 114, 105, 99, 101] bs cz T192.heap n0 Zs195 O193 (BP.ext O193.2) (B1.ext (own_ext KP194)) SC hcz) hZ (hw _ (List.mem_of_getElem? (i := 53) rfl)) (hw _ (List.mem_of_getElem? (i := 7) rfl)) (by decide) (by decide)) q203a q203c (g := (mkF m 25 #[.val (.ref a1), .val (.ref ab192), .val (.int (2 : Int32)), .val (.int (0 : Int32)), .val (.ref wP)] [(.ref a1), (.ref kP)])) rfl (by rw [hml]; rfl) (Steps.refl _) (argsL := [(.ref a1)]) (rest := []) (lenOf of_pd1 rfl) rfl (by show 2 * 0 + _ ≤ _; exact Nat.le_of_eq rfl) (hb hby of_d25) (fun _ _ => ⟨rfl, e201, Nat.le_of_ble_eq_true rfl, Nat.le_of_ble_eq_true rfl⟩)
    dsimp only [Pt.U, Pt.locs, Pt.cells, Pt.slots] at X203 l203 y203 z203 st203 hQ203
    subst l203 y203 z203
    rw [if_neg hP] at hQ203
    obtain ⟨rfl, N203q, hh203⟩ := hQ203
    refine own_seq st203 ?_
    have N203 := Fr.app N192 N203q
    show OwnGo p e below (T203.setTop (mkF m 28 #[.val (.ref a1), .val (.ref ab192), .val (.int (2 : Int32)), .val (.int (0 : Int32)), .val (.ref wP)] [(.int (0 : Int32))])) _
    refine own_back (fun t k => XS.ifYes X203.here hx rfl (pc0 := 28) (pc' := 34) rfl (hb hby of_d28) rfl (Jvm.Free.XT.i0_eq_t (by decide)) (by decide) (by decide) k) ?_
    show OwnGo p e below (T203.setTop (mkF m 34 #[.val (.ref a1), .val (.ref ab192), .val (.int (2 : Int32)), .val (.int (0 : Int32)), .val (.ref wP)] [])) _
    refine own_back (fun t k => XS.iinc X203.here hx rfl (hb hby of_d34) rfl (l' := #[.val (.ref a1), .val (.ref ab192), .val (.int (2 : Int32)), .val (.int (1 : Int32)), .val (.ref wP)]) rfl k) ?_
    show OwnGo p e below (T203.setTop (mkF m 37 #[.val (.ref a1), .val (.ref ab192), .val (.int (2 : Int32)), .val (.int (1 : Int32)), .val (.ref wP)] [])) _
    refine own_back (fun t k => XS.goto X203.here hx rfl (pc0 := 37) (pc' := 9) rfl (hb hby of_d37) (by decide) (by decide) k) ?_
    show OwnGo p e below (T203.setTop (mkF m 9 #[.val (.ref a1), .val (.ref ab192), .val (.int (2 : Int32)), .val (.int (1 : Int32)), .val (.ref wP)] [])) _
    refine own_back (fun t k => XS.iloadN X203.here hx rfl (hb hby of_d9) rfl k) ?_
    show OwnGo p e below (T203.setTop (mkF m 10 #[.val (.ref a1), .val (.ref ab192), .val (.int (2 : Int32)), .val (.int (1 : Int32)), .val (.ref wP)] [(.int (1 : Int32))])) _
    refine own_back (fun t k => XS.iloadN X203.here hx rfl (hb hby of_d10) rfl k) ?_
    show OwnGo p e below (T203.setTop (mkF m 11 #[.val (.ref a1), .val (.ref ab192), .val (.int (2 : Int32)), .val (.int (1 : Int32)), .val (.ref wP)] [(.int (2 : Int32)), (.int (1 : Int32))])) _
    refine own_back (fun t k => XS.icmpNo X203.here hx rfl (hb hby of_d11) rfl (Jvm.Free.XT.ii_ge_f (by decide)) k) ?_
    show OwnGo p e below (T203.setTop (mkF m 14 #[.val (.ref a1), .val (.ref ab192), .val (.int (2 : Int32)), .val (.int (1 : Int32)), .val (.ref wP)] [])) _
    refine own_back (fun t k => XS.aloadN X203.here hx rfl (hb hby of_d14) rfl rfl k) ?_
    show OwnGo p e below (T203.setTop (mkF m 15 #[.val (.ref a1), .val (.ref ab192), .val (.int (2 : Int32)), .val (.int (1 : Int32)), .val (.ref wP)] [(.ref ab192)])) _
    refine own_back (fun t k => XS.iloadN X203.here hx rfl (hb hby of_d15) rfl k) ?_
    show OwnGo p e below (T203.setTop (mkF m 16 #[.val (.ref a1), .val (.ref ab192), .val (.int (2 : Int32)), .val (.int (1 : Int32)), .val (.ref wP)] [(.int (1 : Int32)), (.ref ab192)])) _
    obtain ⟨c204, A204, q204, S204, M204, H204, U204⟩ := id V192
    have ib205 : ¬ ((1 : Int32) < 0 ∨ c204.slots.size ≤ ((1 : Int32)).toNatClampNeg) := (inb_of S204 ⟨by decide, by decide⟩)
    refine own_back (fun t k => X203.aaload hx (j := (1 : Int32)) (v := (.ref wT)) (own_hat hh203 A204.1) (State.isArrayOf_alike hZ.alike A204.2.1) rfl A204.2.2 ib205 (H204.at ib205 rfl) (g := (mkF m 16 #[.val (.ref a1), .val (.ref ab192), .val (.int (2 : Int32)), .val (.int (1 : Int32)), .val (.ref wP)] [(.int (1 : Int32)), (.ref ab192)])) rfl rfl (hb hby of_d16) t k) ?_
    show OwnGo p e below (T203.setTop (mkF m 17 #[.val (.ref a1), .val (.ref ab192), .val (.int (2 : Int32)), .val (.int (1 : Int32)), .val (.ref wP)] [(.ref wT)])) _
    refine own_back (fun t k => XS.astore X203.here hx rfl (hb hby of_d17) rfl rfl (l' := #[.val (.ref a1), .val (.ref ab192), .val (.int (2 : Int32)), .val (.int (1 : Int32)), .val (.ref wT)]) rfl k) ?_
    show OwnGo p e below (T203.setTop (mkF m 19 #[.val (.ref a1), .val (.ref ab192), .val (.int (2 : Int32)), .val (.int (1 : Int32)), .val (.ref wT)] [])) _
    refine own_back (fun t k => XS.aload X203.here hx rfl (hb hby of_d19) rfl rfl k) ?_
    show OwnGo p e below (T203.setTop (mkF m 21 #[.val (.ref a1), .val (.ref ab192), .val (.int (2 : Int32)), .val (.int (1 : Int32)), .val (.ref wT)] [(.ref wT)])) _
    obtain ⟨T206, X206, e206, st206⟩ := getF X203 hx hZ hown (host := "") (Or.inl (hw _ (List.mem_of_getElem? (i := 47) rfl))) Via.refl hh203 (FT.ext O193.2) (g := (mkF m 21 #[.val (.ref a1), .val (.ref ab192), .val (.int (2 : Int32)), .val (.int (1 : Int32)), .val (.ref wT)] [(.ref wT)])) rfl rfl (hb hby of_d21)
    refine own_back st206 ?_
    show OwnGo p e below (T206.setTop (mkF m 24 #[.val (.ref a1), .val (.ref ab192), .val (.int (2 : Int32)), .val (.int (1 : Int32)), .val (.ref wT)] [(.ref kT)])) _
    refine own_back (fun t k => XS.aloadN X206.here hx rfl (hb hby of_d24) rfl rfl k) ?_
    show OwnGo p e below (T206.setTop (mkF m 25 #[.val (.ref a1), .val (.ref ab192), .val (.int (2 : Int32)), .val (.int (1 : Int32)), .val (.ref wT)] [(.ref a1), (.ref kT)])) _
    by_cases hT : ([116, 111, 116, 97, 108] : List Int32) = bs
    · obtain ⟨cq207, kq207, q207a, q207b, q207c⟩ := isOf hZ e206 (BT.ext O193.2).exa
      obtain ⟨_, _, ⟨T207, L207, k207, n207⟩, -, X207, ⟨Lc207, hQ207, l207, y207, z207⟩, st207⟩ := X206.virtualBack hx (y := (⟨"java/lang/String", "equals", "(Ljava/lang/Object;)Z"⟩ : MethodName)) (z := (⟨"java/lang/String", "equals", "(Ljava/lang/Object;)Z"⟩ : MethodName)) hown (mvT hZ (hw _ (List.mem_of_getElem? (i := 49) rfl))) (mvT hZ (hw _ (List.mem_of_getElem? (i := 50) rfl))) (notFace_of_selects (args := #[]) (mvT hZ (hw _ (List.mem_of_getElem? (i := 52) rfl)))) (mvT hZ (hw _ (List.mem_of_getElem? (i := 52) rfl))) (mvT hZ (hw _ (List.mem_of_getElem? (i := 51) rfl))) (by decide) (own_backN (W := 0) (rm_seq l Z a0 hw [] kT a1 [116, 111, 116, 97, 108] bs cz T192.heap n0 Zs195 O193 (BT.ext O193.2) (B1.ext (own_ext KP194)) SC hcz) hZ (hw _ (List.mem_of_getElem? (i := 53) rfl)) (hw _ (List.mem_of_getElem? (i := 7) rfl)) (by decide) (by decide)) q207a q207c (g := (mkF m 25 #[.val (.ref a1), .val (.ref ab192), .val (.int (2 : Int32)), .val (.int (1 : Int32)), .val (.ref wT)] [(.ref a1), (.ref kT)])) rfl (by rw [hml]; rfl) (Steps.refl _) (argsL := [(.ref a1)]) (rest := []) (lenOf of_pd1 rfl) rfl (by show 2 * 0 + _ ≤ _; exact Nat.le_of_eq rfl) (hb hby of_d25) (fun _ _ => ⟨rfl, e206, Nat.le_of_ble_eq_true rfl, Nat.le_of_ble_eq_true rfl⟩)
      dsimp only [Pt.U, Pt.locs, Pt.cells, Pt.slots] at X207 l207 y207 z207 st207 hQ207
      subst l207 y207 z207
      rw [if_pos hT] at hQ207
      obtain ⟨rfl, N207q, hh207⟩ := hQ207
      refine own_seq st207 ?_
      have N207 := Fr.app N203 N207q
      show OwnGo p e below (T207.setTop (mkF m 28 #[.val (.ref a1), .val (.ref ab192), .val (.int (2 : Int32)), .val (.int (1 : Int32)), .val (.ref wT)] [(.int (1 : Int32))])) _
      refine own_back (fun t k => XS.ifNo X207.here hx rfl (hb hby of_d28) rfl (Jvm.Free.XT.i0_eq_f (by decide)) k) ?_
      show OwnGo p e below (T207.setTop (mkF m 31 #[.val (.ref a1), .val (.ref ab192), .val (.int (2 : Int32)), .val (.int (1 : Int32)), .val (.ref wT)] [])) _
      refine own_back (fun t k => XS.aload X207.here hx rfl (hb hby of_d31) rfl rfl k) ?_
      show OwnGo p e below (T207.setTop (mkF m 33 #[.val (.ref a1), .val (.ref ab192), .val (.int (2 : Int32)), .val (.int (1 : Int32)), .val (.ref wT)] [(.ref wT)])) _
      refine own_retA X207 hx Bd.notSynchronized Bd.returns rfl rfl (hb hby of_d33) hh207 (Nat.le_of_ble_eq_true rfl) (Nat.le_of_ble_eq_true rfl) ?_
      exact ⟨by rw [if_neg hP, if_pos hT], N207, own_ext KP194⟩
    · obtain ⟨cq208, kq208, q208a, q208b, q208c⟩ := isOf hZ e206 (BT.ext O193.2).exa
      obtain ⟨_, _, ⟨T208, L208, k208, n208⟩, -, X208, ⟨Lc208, hQ208, l208, y208, z208⟩, st208⟩ := X206.virtualBack hx (y := (⟨"java/lang/String", "equals", "(Ljava/lang/Object;)Z"⟩ : MethodName)) (z := (⟨"java/lang/String", "equals", "(Ljava/lang/Object;)Z"⟩ : MethodName)) hown (mvT hZ (hw _ (List.mem_of_getElem? (i := 49) rfl))) (mvT hZ (hw _ (List.mem_of_getElem? (i := 50) rfl))) (notFace_of_selects (args := #[]) (mvT hZ (hw _ (List.mem_of_getElem? (i := 52) rfl)))) (mvT hZ (hw _ (List.mem_of_getElem? (i := 52) rfl))) (mvT hZ (hw _ (List.mem_of_getElem? (i := 51) rfl))) (by decide) (own_backN (W := 0) (rm_seq l Z a0 hw [] kT a1 [116, 111, 116, 97, 108] bs cz T192.heap n0 Zs195 O193 (BT.ext O193.2) (B1.ext (own_ext KP194)) SC hcz) hZ (hw _ (List.mem_of_getElem? (i := 53) rfl)) (hw _ (List.mem_of_getElem? (i := 7) rfl)) (by decide) (by decide)) q208a q208c (g := (mkF m 25 #[.val (.ref a1), .val (.ref ab192), .val (.int (2 : Int32)), .val (.int (1 : Int32)), .val (.ref wT)] [(.ref a1), (.ref kT)])) rfl (by rw [hml]; rfl) (Steps.refl _) (argsL := [(.ref a1)]) (rest := []) (lenOf of_pd1 rfl) rfl (by show 2 * 0 + _ ≤ _; exact Nat.le_of_eq rfl) (hb hby of_d25) (fun _ _ => ⟨rfl, e206, Nat.le_of_ble_eq_true rfl, Nat.le_of_ble_eq_true rfl⟩)
      dsimp only [Pt.U, Pt.locs, Pt.cells, Pt.slots] at X208 l208 y208 z208 st208 hQ208
      subst l208 y208 z208
      rw [if_neg hT] at hQ208
      obtain ⟨rfl, N208q, hh208⟩ := hQ208
      refine own_seq st208 ?_
      have N208 := Fr.app N203 N208q
      show OwnGo p e below (T208.setTop (mkF m 28 #[.val (.ref a1), .val (.ref ab192), .val (.int (2 : Int32)), .val (.int (1 : Int32)), .val (.ref wT)] [(.int (0 : Int32))])) _
      refine own_back (fun t k => XS.ifYes X208.here hx rfl (pc0 := 28) (pc' := 34) rfl (hb hby of_d28) rfl (Jvm.Free.XT.i0_eq_t (by decide)) (by decide) (by decide) k) ?_
      show OwnGo p e below (T208.setTop (mkF m 34 #[.val (.ref a1), .val (.ref ab192), .val (.int (2 : Int32)), .val (.int (1 : Int32)), .val (.ref wT)] [])) _
      refine own_back (fun t k => XS.iinc X208.here hx rfl (hb hby of_d34) rfl (l' := #[.val (.ref a1), .val (.ref ab192), .val (.int (2 : Int32)), .val (.int (2 : Int32)), .val (.ref wT)]) rfl k) ?_
      show OwnGo p e below (T208.setTop (mkF m 37 #[.val (.ref a1), .val (.ref ab192), .val (.int (2 : Int32)), .val (.int (2 : Int32)), .val (.ref wT)] [])) _
      refine own_back (fun t k => XS.goto X208.here hx rfl (pc0 := 37) (pc' := 9) rfl (hb hby of_d37) (by decide) (by decide) k) ?_
      show OwnGo p e below (T208.setTop (mkF m 9 #[.val (.ref a1), .val (.ref ab192), .val (.int (2 : Int32)), .val (.int (2 : Int32)), .val (.ref wT)] [])) _
      refine own_back (fun t k => XS.iloadN X208.here hx rfl (hb hby of_d9) rfl k) ?_
      show OwnGo p e below (T208.setTop (mkF m 10 #[.val (.ref a1), .val (.ref ab192), .val (.int (2 : Int32)), .val (.int (2 : Int32)), .val (.ref wT)] [(.int (2 : Int32))])) _
      refine own_back (fun t k => XS.iloadN X208.here hx rfl (hb hby of_d10) rfl k) ?_
      show OwnGo p e below (T208.setTop (mkF m 11 #[.val (.ref a1), .val (.ref ab192), .val (.int (2 : Int32)), .val (.int (2 : Int32)), .val (.ref wT)] [(.int (2 : Int32)), (.int (2 : Int32))])) _
      refine own_back (fun t k => XS.icmpYes X208.here hx rfl (pc0 := 11) (pc' := 40) rfl (hb hby of_d11) rfl (Jvm.Free.XT.ii_ge_t (by decide)) (by decide) (by decide) k) ?_
      show OwnGo p e below (T208.setTop (mkF m 40 #[.val (.ref a1), .val (.ref ab192), .val (.int (2 : Int32)), .val (.int (2 : Int32)), .val (.ref wT)] [])) _
      refine own_back (fun t k => XS.aconstNull X208.here hx rfl (hb hby of_d40) k) ?_
      show OwnGo p e below (T208.setTop (mkF m 41 #[.val (.ref a1), .val (.ref ab192), .val (.int (2 : Int32)), .val (.int (2 : Int32)), .val (.ref wT)] [.null])) _
      refine own_retA X208 hx Bd.notSynchronized Bd.returns rfl rfl (hb hby of_d41) hh208 (Nat.le_of_ble_eq_true rfl) (Nat.le_of_ble_eq_true rfl) ?_
      exact ⟨by rw [if_neg hP, if_neg hT], N208, own_ext KP194⟩
theorem ofn_d0 : decode prog_6_method_5_code 0 = .ok (.invokestatic 33, 3) := by decide +kernel
theorem ofn_d3 : decode prog_6_method_5_code 3 = .ok (.astore_n 1, 1) := by decide +kernel
theorem ofn_d4 : decode prog_6_method_5_code 4 = .ok (.aload_n 1, 1) := by decide +kernel
theorem ofn_d5 : decode prog_6_method_5_code 5 = .ok (.arraylength, 1) := by decide +kernel
theorem ofn_d6 : decode prog_6_method_5_code 6 = .ok (.istore_n 2, 1) := by decide +kernel
theorem ofn_d7 : decode prog_6_method_5_code 7 = .ok (.iconst 0, 1) := by decide +kernel
theorem ofn_d8 : decode prog_6_method_5_code 8 = .ok (.istore_n 3, 1) := by decide +kernel
theorem ofn_d9 : decode prog_6_method_5_code 9 = .ok (.iload_n 3, 1) := by decide +kernel
theorem ofn_d10 : decode prog_6_method_5_code 10 = .ok (.iload_n 2, 1) := by decide +kernel
theorem ofn_d11 : decode prog_6_method_5_code 11 = .ok (.if_icmp .ge 29, 3) := by decide +kernel
theorem ofn_d14 : decode prog_6_method_5_code 14 = .ok (.aload_n 1, 1) := by decide +kernel
theorem ofn_d15 : decode prog_6_method_5_code 15 = .ok (.iload_n 3, 1) := by decide +kernel
theorem ofn_d16 : decode prog_6_method_5_code 16 = .ok (.aaload, 1) := by decide +kernel
theorem ofn_d17 : decode prog_6_method_5_code 17 = .ok (.astore 4, 2) := by decide +kernel
theorem ofn_d19 : decode prog_6_method_5_code 19 = .ok (.aload 4, 2) := by decide +kernel
theorem ofn_d21 : decode prog_6_method_5_code 21 = .ok (.getfield 29, 3) := by decide +kernel
theorem ofn_d24 : decode prog_6_method_5_code 24 = .ok (.aload_n 0, 1) := by decide +kernel
theorem ofn_d25 : decode prog_6_method_5_code 25 = .ok (.invokevirtual 37, 3) := by decide +kernel
theorem ofn_d28 : decode prog_6_method_5_code 28 = .ok (.ifCond .eq 6, 3) := by decide +kernel
theorem ofn_d34 : decode prog_6_method_5_code 34 = .ok (.iinc 3 1, 3) := by decide +kernel
theorem ofn_d37 : decode prog_6_method_5_code 37 = .ok (.goto (-28), 3) := by decide +kernel
theorem ofn_d40 : decode prog_6_method_5_code 40 = .ok (.aconst_null, 1) := by decide +kernel
theorem ofn_d41 : decode prog_6_method_5_code 41 = .ok (.areturn, 1) := by decide +kernel
theorem ofn_pn : plainName "com/example/indexwright/indexwright/bond/BondVariant" = true := by first | (simp [plainName, overriddenIn]; done) | decide +kernel
theorem ofn_pd0 : parseMethodDescriptor "()[Lcom/example/indexwright/indexwright/bond/BondVariant;" = some ⟨[], some (.array (.object "com/example/indexwright/indexwright/bond/BondVariant"))⟩ := by decide +kernel
theorem ofn_pd1 : parseMethodDescriptor "(Ljava/lang/Object;)Z" = some ⟨[(.object "java/lang/Object")], some .boolean⟩ := by decide +kernel
theorem ofn_ef (m : MethodId)  : entryFrame m #[.null] 5 = mkF m 0 #[.val .null, .unset, .unset, .unset, .unset] [] := by first | (simp [entryFrame, mkF, argsToLocals, Value.category]; done) | rfl
set_option maxRecDepth 65536 in
set_option maxHeartbeats 40000000 in
theorem rm_ofn (l : Launch) (Z : State) (a0 : Array Value) (hw : ∀ d ∈ tables_1, d.before a0 Z = true) (ws : List Jvm.Cond) (wP : Addr) (wT : Addr) (wV : Addr) (kV : ClassId) (kP : Addr) (kT : Addr) (cz : Int32) (h0 : Heap) (n0 : Nat) (Z0 : n0 ≤ h0.size) (OL : Old Z n0 h0) (SV : Sta Z Z.heap "com/example/indexwright/indexwright/bond/BondVariant" "$VALUES" "[Lcom/example/indexwright/indexwright/bond/BondVariant;" (.ref wV)) (AV : Arv Z Z.heap wV kV (.object "com/example/indexwright/indexwright/bond/BondVariant") 2 [.ref wP, .ref wT] .null) (EV : Exa Z Z.heap wV "[Lcom/example/indexwright/indexwright/bond/BondVariant;") (FV : ∀ c, Z.heap[wV]? = some c → FitC Z c) (FP : Fld Z Z.heap wP "com/example/indexwright/indexwright/bond/BondVariant" "key" "Ljava/lang/String;" (.ref kP)) (FT : Fld Z Z.heap wT "com/example/indexwright/indexwright/bond/BondVariant" "key" "Ljava/lang/String;" (.ref kT)) (BP : OwnStr Z Z.heap kP [112, 114, 105, 99, 101]) (BT : OwnStr Z Z.heap kT [116, 111, 116, 97, 108]) (SC : Sta Z Z.heap "java/lang/String" "COMPACT_STRINGS" "Z" (.int cz)) (hcz : ¬ cz = 0) :
    MetFree l (⟨"com/example/indexwright/indexwright/bond/BondVariant", "of", "(Ljava/lang/String;)Lcom/example/indexwright/indexwright/bond/BondVariant;"⟩ : MethodName) (head1 (Jvm.Cond.code (⟨"com/example/indexwright/indexwright/bond/BondVariant", "of", "(Ljava/lang/String;)Lcom/example/indexwright/indexwright/bond/BondVariant;"⟩ : MethodName) prog_6_method_5_code 5 (some (.object "com/example/indexwright/indexwright/bond/BondVariant")) :: ws) ({ frames := 3, cells := 1, slots := 2, locals := 50 } : Room)) (fun a U => a = #[.null] ∧ Z.Warmed39 U.vm ∧ U.heap = h0) (fun _ _ _ _ _ => True) (fun _ U o U' => OwnEnd U (fun v h L => v = some .null ∧ Fr n0 L ∧ Ext h0 h) ({ frames := 3, cells := 1, slots := 2, locals := 50 } : Room).cells ({ frames := 3, cells := 1, slots := 2, locals := 50 } : Room).slots o U') := by
  refine MetFree.of_bodySF (plainFor_of_name ofn_pn) hisR ?_
  intro p e s m args below meth c s₁ Bd hml0 hP hK
  obtain ⟨rfl, hZ, hh⟩ := hP
  have hx := Bd.exec
  have hby := Bd.bytes
  have hml : c.maxLocals = 5 := hml0
  have hown : s.vm.findClass "com/example/indexwright/indexwright/bond/BondVariant" = some m.cls := findClass_of_methodNamed Bd.named
  have hnm := (name_of_methodNamed Bd.named Bd.method).1
  have X0 : Stand p l e ({ frames := 3, cells := 1, slots := 2, locals := 50 } : Room) s m #[.null] below meth c s₁ [] 0 0 := Stand.of_body Bd
  have e0 : s₁.heap = h0 := by rw [← hh, Bd.state]; rfl
  have N0 := Fr.nil n0
  have KP0 := Keep.refl h0 []
  refine own_go (Q := (OwnEnd s (fun v h L => v = some .null ∧ Fr n0 L ∧ Ext h0 h) ({ frames := 3, cells := 1, slots := 2, locals := 50 } : Room).cells ({ frames := 3, cells := 1, slots := 2, locals := 50 } : Room).slots)) ?_
  refine own_back (fun t k => castTop (ofn_ef m ) k) ?_
  show OwnGo p e below (s₁.setTop (mkF m 0 #[.val .null, .unset, .unset, .unset, .unset] [])) _
  obtain ⟨_, _, ⟨T209, L209, k209, n209⟩, -, X209, ⟨Lc209, hQ209, l209, y209, z209⟩, st209⟩ := Jvm.LawKit.callS X0 hx (y := (⟨"com/example/indexwright/indexwright/bond/BondVariant", "values", "()[Lcom/example/indexwright/indexwright/bond/BondVariant;"⟩ : MethodName)) hown (mvT hZ (hw _ (List.mem_of_getElem? (i := 30) rfl))) (mvT hZ (hw _ (List.mem_of_getElem? (i := 31) rfl))) (mvT hZ (hw _ (List.mem_of_getElem? (i := 28) rfl))) (mvT hZ (hw _ (List.mem_of_getElem? (i := 32) rfl))) (by decide) (own_backN (W := 0) (rm_val l Z a0 hw [] wP wT wV kV kP kT cz h0 n0 Z0 OL SV AV EV FV FP FT BP BT SC hcz) hZ (hw _ (List.mem_of_getElem? (i := 32) rfl)) (hw _ (List.mem_of_getElem? (i := 28) rfl)) (by decide) (by decide)) (g := (mkF m 0 #[.val .null, .unset, .unset, .unset, .unset] [])) rfl (by rw [hml]; rfl) (argsL := []) (rest := []) (lenOf ofn_pd0 rfl) rfl (by show 2 * 0 + _ ≤ _; exact Nat.le_of_eq rfl) (hb hby ofn_d0) (fun _ _ => ⟨rfl, e0, Nat.le_of_ble_eq_true rfl, Nat.le_of_ble_eq_true rfl⟩)
  dsimp only [Pt.U, Pt.locs, Pt.cells, Pt.slots] at X209 l209 y209 z209 st209 hQ209
  subst l209 y209 z209
  obtain ⟨ab209, rfl, N209q, E209, V209, s209⟩ := hQ209
  refine own_back st209 ?_
  have N209 := Fr.app N0 N209q
  have O210 := OL.ext E209
  have KP211 := KP0.ext E209
  have Zs212 := Nat.le_trans Z0 E209.1
  have ge213 := Nat.le_trans Z0 s209
  have sz214 := Nat.le_trans KP0.1 s209
  show OwnGo p e below (T209.setTop (mkF m 3 #[.val .null, .unset, .unset, .unset, .unset] [(.ref ab209)])) _
  refine own_back (fun t k => XS.astoreN X209.here hx rfl (hb hby ofn_d3) rfl rfl (l' := #[.val .null, .val (.ref ab209), .unset, .unset, .unset]) rfl k) ?_
  show OwnGo p e below (T209.setTop (mkF m 4 #[.val .null, .val (.ref ab209), .unset, .unset, .unset] [])) _
  refine own_back (fun t k => XS.aloadN X209.here hx rfl (hb hby ofn_d4) rfl rfl k) ?_
  show OwnGo p e below (T209.setTop (mkF m 5 #[.val .null, .val (.ref ab209), .unset, .unset, .unset] [(.ref ab209)])) _
  obtain ⟨c215, A215, q215, S215, M215, H215, U215⟩ := id V209
  refine own_back (fun t k => X209.arraylength hx (own_hat rfl A215.1) (State.isArrayOf_alike hZ.alike A215.2.1) (g := (mkF m 5 #[.val .null, .val (.ref ab209), .unset, .unset, .unset] [(.ref ab209)])) rfl rfl (hb hby ofn_d5) t k) ?_
  rw [len_of S215 M215]
  show OwnGo p e below (T209.setTop (mkF m 6 #[.val .null, .val (.ref ab209), .unset, .unset, .unset] [(.int (2 : Int32))])) _
  refine own_back (fun t k => XS.istoreN X209.here hx rfl (hb hby ofn_d6) rfl (l' := #[.val .null, .val (.ref ab209), .val (.int (2 : Int32)), .unset, .unset]) rfl k) ?_
  show OwnGo p e below (T209.setTop (mkF m 7 #[.val .null, .val (.ref ab209), .val (.int (2 : Int32)), .unset, .unset] [])) _
  refine own_back (fun t k => XS.iconst X209.here hx rfl (hb hby ofn_d7) k) ?_
  show OwnGo p e below (T209.setTop (mkF m 8 #[.val .null, .val (.ref ab209), .val (.int (2 : Int32)), .unset, .unset] [(.int (0 : Int32))])) _
  refine own_back (fun t k => XS.istoreN X209.here hx rfl (hb hby ofn_d8) rfl (l' := #[.val .null, .val (.ref ab209), .val (.int (2 : Int32)), .val (.int (0 : Int32)), .unset]) rfl k) ?_
  show OwnGo p e below (T209.setTop (mkF m 9 #[.val .null, .val (.ref ab209), .val (.int (2 : Int32)), .val (.int (0 : Int32)), .unset] [])) _
  refine own_back (fun t k => XS.iloadN X209.here hx rfl (hb hby ofn_d9) rfl k) ?_
  show OwnGo p e below (T209.setTop (mkF m 10 #[.val .null, .val (.ref ab209), .val (.int (2 : Int32)), .val (.int (0 : Int32)), .unset] [(.int (0 : Int32))])) _
  refine own_back (fun t k => XS.iloadN X209.here hx rfl (hb hby ofn_d10) rfl k) ?_
  show OwnGo p e below (T209.setTop (mkF m 11 #[.val .null, .val (.ref ab209), .val (.int (2 : Int32)), .val (.int (0 : Int32)), .unset] [(.int (2 : Int32)), (.int (0 : Int32))])) _
  refine own_back (fun t k => XS.icmpNo X209.here hx rfl (hb hby ofn_d11) rfl (Jvm.Free.XT.ii_ge_f (by decide)) k) ?_
  show OwnGo p e below (T209.setTop (mkF m 14 #[.val .null, .val (.ref ab209), .val (.int (2 : Int32)), .val (.int (0 : Int32)), .unset] [])) _
  refine own_back (fun t k => XS.aloadN X209.here hx rfl (hb hby ofn_d14) rfl rfl k) ?_
  show OwnGo p e below (T209.setTop (mkF m 15 #[.val .null, .val (.ref ab209), .val (.int (2 : Int32)), .val (.int (0 : Int32)), .unset] [(.ref ab209)])) _
  refine own_back (fun t k => XS.iloadN X209.here hx rfl (hb hby ofn_d15) rfl k) ?_
  show OwnGo p e below (T209.setTop (mkF m 16 #[.val .null, .val (.ref ab209), .val (.int (2 : Int32)), .val (.int (0 : Int32)), .unset] [(.int (0 : Int32)), (.ref ab209)])) _
  obtain ⟨c216, A216, q216, S216, M216, H216, U216⟩ := id V209
  have ib217 : ¬ ((0 : Int32) < 0 ∨ c216.slots.size ≤ ((0 : Int32)).toNatClampNeg) := (inb_of S216 ⟨by decide, by decide⟩)
  refine own_back (fun t k => X209.aaload hx (j := (0 : Int32)) (v := (.ref wP)) (own_hat rfl A216.1) (State.isArrayOf_alike hZ.alike A216.2.1) rfl A216.2.2 ib217 (H216.at ib217 rfl) (g := (mkF m 16 #[.val .null, .val (.ref ab209), .val (.int (2 : Int32)), .val (.int (0 : Int32)), .unset] [(.int (0 : Int32)), (.ref ab209)])) rfl rfl (hb hby ofn_d16) t k) ?_
  show OwnGo p e below (T209.setTop (mkF m 17 #[.val .null, .val (.ref ab209), .val (.int (2 : Int32)), .val (.int (0 : Int32)), .unset] [(.ref wP)])) _
  refine own_back (fun t k => XS.astore X209.here hx rfl (hb hby ofn_d17) rfl rfl (l' := #[.val .null, .val (.ref ab209), .val (.int (2 : Int32)), .val (.int (0 : Int32)), .val (.ref wP)]) rfl k) ?_
  show OwnGo p e below (T209.setTop (mkF m 19 #[.val .null, .val (.ref ab209), .val (.int (2 : Int32)), .val (.int (0 : Int32)), .val (.ref wP)] [])) _
  refine own_back (fun t k => XS.aload X209.here hx rfl (hb hby ofn_d19) rfl rfl k) ?_
  show OwnGo p e below (T209.setTop (mkF m 21 #[.val .null, .val (.ref ab209), .val (.int (2 : Int32)), .val (.int (0 : Int32)), .val (.ref wP)] [(.ref wP)])) _
  obtain ⟨T218, X218, e218, st218⟩ := getF X209 hx hZ hown (host := "") (Or.inl (hw _ (List.mem_of_getElem? (i := 47) rfl))) Via.refl rfl (FP.ext O210.2) (g := (mkF m 21 #[.val .null, .val (.ref ab209), .val (.int (2 : Int32)), .val (.int (0 : Int32)), .val (.ref wP)] [(.ref wP)])) rfl rfl (hb hby ofn_d21)
  refine own_back st218 ?_
  show OwnGo p e below (T218.setTop (mkF m 24 #[.val .null, .val (.ref ab209), .val (.int (2 : Int32)), .val (.int (0 : Int32)), .val (.ref wP)] [(.ref kP)])) _
  refine own_back (fun t k => XS.aloadN X218.here hx rfl (hb hby ofn_d24) rfl rfl k) ?_
  show OwnGo p e below (T218.setTop (mkF m 25 #[.val .null, .val (.ref ab209), .val (.int (2 : Int32)), .val (.int (0 : Int32)), .val (.ref wP)] [.null, (.ref kP)])) _
  obtain ⟨cq219, kq219, q219a, q219b, q219c⟩ := isOf hZ e218 (BP.ext O210.2).exa
  obtain ⟨_, _, ⟨T219, L219, k219, n219⟩, -, X219, ⟨Lc219, hQ219, l219, y219, z219⟩, st219⟩ := X218.virtualBack hx (y := (⟨"java/lang/String", "equals", "(Ljava/lang/Object;)Z"⟩ : MethodName)) (z := (⟨"java/lang/String", "equals", "(Ljava/lang/Object;)Z"⟩ : MethodName)) hown (mvT hZ (hw _ (List.mem_of_getElem? (i := 49) rfl))) (mvT hZ (hw _ (List.mem_of_getElem? (i := 50) rfl))) (notFace_of_selects (args := #[]) (mvT hZ (hw _ (List.mem_of_getElem? (i := 52) rfl)))) (mvT hZ (hw _ (List.mem_of_getElem? (i := 52) rfl))) (mvT hZ (hw _ (List.mem_of_getElem? (i := 51) rfl))) (by decide) (own_backN (W := 0) (rm_seqn l Z a0 hw [] kP T209.heap n0 Zs212) hZ (hw _ (List.mem_of_getElem? (i := 53) rfl)) (hw _ (List.mem_of_getElem? (i := 7) rfl)) (by decide) (by decide)) q219a q219c (g := (mkF m 25 #[.val .null, .val (.ref ab209), .val (.int (2 : Int32)), .val (.int (0 : Int32)), .val (.ref wP)] [.null, (.ref kP)])) rfl (by rw [hml]; rfl) (Steps.refl _) (argsL := [.null]) (rest := []) (lenOf ofn_pd1 rfl) rfl (by show 2 * 0 + _ ≤ _; exact Nat.le_of_eq rfl) (hb hby ofn_d25) (fun _ _ => ⟨rfl, e218, Nat.le_of_ble_eq_true rfl, Nat.le_of_ble_eq_true rfl⟩)
  dsimp only [Pt.U, Pt.locs, Pt.cells, Pt.slots] at X219 l219 y219 z219 st219 hQ219
  subst l219 y219 z219
  obtain ⟨rfl, N219q, hh219⟩ := hQ219
  refine own_seq st219 ?_
  have N219 := Fr.app N209 N219q
  show OwnGo p e below (T219.setTop (mkF m 28 #[.val .null, .val (.ref ab209), .val (.int (2 : Int32)), .val (.int (0 : Int32)), .val (.ref wP)] [(.int (0 : Int32))])) _
  refine own_back (fun t k => XS.ifYes X219.here hx rfl (pc0 := 28) (pc' := 34) rfl (hb hby ofn_d28) rfl (Jvm.Free.XT.i0_eq_t (by decide)) (by decide) (by decide) k) ?_
  show OwnGo p e below (T219.setTop (mkF m 34 #[.val .null, .val (.ref ab209), .val (.int (2 : Int32)), .val (.int (0 : Int32)), .val (.ref wP)] [])) _
  refine own_back (fun t k => XS.iinc X219.here hx rfl (hb hby ofn_d34) rfl (l' := #[.val .null, .val (.ref ab209), .val (.int (2 : Int32)), .val (.int (1 : Int32)), .val (.ref wP)]) rfl k) ?_
  show OwnGo p e below (T219.setTop (mkF m 37 #[.val .null, .val (.ref ab209), .val (.int (2 : Int32)), .val (.int (1 : Int32)), .val (.ref wP)] [])) _
  refine own_back (fun t k => XS.goto X219.here hx rfl (pc0 := 37) (pc' := 9) rfl (hb hby ofn_d37) (by decide) (by decide) k) ?_
  show OwnGo p e below (T219.setTop (mkF m 9 #[.val .null, .val (.ref ab209), .val (.int (2 : Int32)), .val (.int (1 : Int32)), .val (.ref wP)] [])) _
  refine own_back (fun t k => XS.iloadN X219.here hx rfl (hb hby ofn_d9) rfl k) ?_
  show OwnGo p e below (T219.setTop (mkF m 10 #[.val .null, .val (.ref ab209), .val (.int (2 : Int32)), .val (.int (1 : Int32)), .val (.ref wP)] [(.int (1 : Int32))])) _
  refine own_back (fun t k => XS.iloadN X219.here hx rfl (hb hby ofn_d10) rfl k) ?_
  show OwnGo p e below (T219.setTop (mkF m 11 #[.val .null, .val (.ref ab209), .val (.int (2 : Int32)), .val (.int (1 : Int32)), .val (.ref wP)] [(.int (2 : Int32)), (.int (1 : Int32))])) _
  refine own_back (fun t k => XS.icmpNo X219.here hx rfl (hb hby ofn_d11) rfl (Jvm.Free.XT.ii_ge_f (by decide)) k) ?_
  show OwnGo p e below (T219.setTop (mkF m 14 #[.val .null, .val (.ref ab209), .val (.int (2 : Int32)), .val (.int (1 : Int32)), .val (.ref wP)] [])) _
  refine own_back (fun t k => XS.aloadN X219.here hx rfl (hb hby ofn_d14) rfl rfl k) ?_
  show OwnGo p e below (T219.setTop (mkF m 15 #[.val .null, .val (.ref ab209), .val (.int (2 : Int32)), .val (.int (1 : Int32)), .val (.ref wP)] [(.ref ab209)])) _
  refine own_back (fun t k => XS.iloadN X219.here hx rfl (hb hby ofn_d15) rfl k) ?_
  show OwnGo p e below (T219.setTop (mkF m 16 #[.val .null, .val (.ref ab209), .val (.int (2 : Int32)), .val (.int (1 : Int32)), .val (.ref wP)] [(.int (1 : Int32)), (.ref ab209)])) _
  obtain ⟨c220, A220, q220, S220, M220, H220, U220⟩ := id V209
  have ib221 : ¬ ((1 : Int32) < 0 ∨ c220.slots.size ≤ ((1 : Int32)).toNatClampNeg) := (inb_of S220 ⟨by decide, by decide⟩)
  refine own_back (fun t k => X219.aaload hx (j := (1 : Int32)) (v := (.ref wT)) (own_hat hh219 A220.1) (State.isArrayOf_alike hZ.alike A220.2.1) rfl A220.2.2 ib221 (H220.at ib221 rfl) (g := (mkF m 16 #[.val .null, .val (.ref ab209), .val (.int (2 : Int32)), .val (.int (1 : Int32)), .val (.ref wP)] [(.int (1 : Int32)), (.ref ab209)])) rfl rfl (hb hby ofn_d16) t k) ?_
  show OwnGo p e below (T219.setTop (mkF m 17 #[.val .null, .val (.ref ab209), .val (.int (2 : Int32)), .val (.int (1 : Int32)), .val (.ref wP)] [(.ref wT)])) _
  refine own_back (fun t k => XS.astore X219.here hx rfl (hb hby ofn_d17) rfl rfl (l' := #[.val .null, .val (.ref ab209), .val (.int (2 : Int32)), .val (.int (1 : Int32)), .val (.ref wT)]) rfl k) ?_
  show OwnGo p e below (T219.setTop (mkF m 19 #[.val .null, .val (.ref ab209), .val (.int (2 : Int32)), .val (.int (1 : Int32)), .val (.ref wT)] [])) _
  refine own_back (fun t k => XS.aload X219.here hx rfl (hb hby ofn_d19) rfl rfl k) ?_
  show OwnGo p e below (T219.setTop (mkF m 21 #[.val .null, .val (.ref ab209), .val (.int (2 : Int32)), .val (.int (1 : Int32)), .val (.ref wT)] [(.ref wT)])) _
  obtain ⟨T222, X222, e222, st222⟩ := getF X219 hx hZ hown (host := "") (Or.inl (hw _ (List.mem_of_getElem? (i := 47) rfl))) Via.refl hh219 (FT.ext O210.2) (g := (mkF m 21 #[.val .null, .val (.ref ab209), .val (.int (2 : Int32)), .val (.int (1 : Int32)), .val (.ref wT)] [(.ref wT)])) rfl rfl (hb hby ofn_d21)
  refine own_back st222 ?_
  show OwnGo p e below (T222.setTop (mkF m 24 #[.val .null, .val (.ref ab209), .val (.int (2 : Int32)), .val (.int (1 : Int32)), .val (.ref wT)] [(.ref kT)])) _
  refine own_back (fun t k => XS.aloadN X222.here hx rfl (hb hby ofn_d24) rfl rfl k) ?_
  show OwnGo p e below (T222.setTop (mkF m 25 #[.val .null, .val (.ref ab209), .val (.int (2 : Int32)), .val (.int (1 : Int32)), .val (.ref wT)] [.null, (.ref kT)])) _
  obtain ⟨cq223, kq223, q223a, q223b, q223c⟩ := isOf hZ e222 (BT.ext O210.2).exa
  obtain ⟨_, _, ⟨T223, L223, k223, n223⟩, -, X223, ⟨Lc223, hQ223, l223, y223, z223⟩, st223⟩ := X222.virtualBack hx (y := (⟨"java/lang/String", "equals", "(Ljava/lang/Object;)Z"⟩ : MethodName)) (z := (⟨"java/lang/String", "equals", "(Ljava/lang/Object;)Z"⟩ : MethodName)) hown (mvT hZ (hw _ (List.mem_of_getElem? (i := 49) rfl))) (mvT hZ (hw _ (List.mem_of_getElem? (i := 50) rfl))) (notFace_of_selects (args := #[]) (mvT hZ (hw _ (List.mem_of_getElem? (i := 52) rfl)))) (mvT hZ (hw _ (List.mem_of_getElem? (i := 52) rfl))) (mvT hZ (hw _ (List.mem_of_getElem? (i := 51) rfl))) (by decide) (own_backN (W := 0) (rm_seqn l Z a0 hw [] kT T209.heap n0 Zs212) hZ (hw _ (List.mem_of_getElem? (i := 53) rfl)) (hw _ (List.mem_of_getElem? (i := 7) rfl)) (by decide) (by decide)) q223a q223c (g := (mkF m 25 #[.val .null, .val (.ref ab209), .val (.int (2 : Int32)), .val (.int (1 : Int32)), .val (.ref wT)] [.null, (.ref kT)])) rfl (by rw [hml]; rfl) (Steps.refl _) (argsL := [.null]) (rest := []) (lenOf ofn_pd1 rfl) rfl (by show 2 * 0 + _ ≤ _; exact Nat.le_of_eq rfl) (hb hby ofn_d25) (fun _ _ => ⟨rfl, e222, Nat.le_of_ble_eq_true rfl, Nat.le_of_ble_eq_true rfl⟩)
  dsimp only [Pt.U, Pt.locs, Pt.cells, Pt.slots] at X223 l223 y223 z223 st223 hQ223
  subst l223 y223 z223
  obtain ⟨rfl, N223q, hh223⟩ := hQ223
  refine own_seq st223 ?_
  have N223 := Fr.app N219 N223q
  show OwnGo p e below (T223.setTop (mkF m 28 #[.val .null, .val (.ref ab209), .val (.int (2 : Int32)), .val (.int (1 : Int32)), .val (.ref wT)] [(.int (0 : Int32))])) _
  refine own_back (fun t k => XS.ifYes X223.here hx rfl (pc0 := 28) (pc' := 34) rfl (hb hby ofn_d28) rfl (Jvm.Free.XT.i0_eq_t (by decide)) (by decide) (by decide) k) ?_
  show OwnGo p e below (T223.setTop (mkF m 34 #[.val .null, .val (.ref ab209), .val (.int (2 : Int32)), .val (.int (1 : Int32)), .val (.ref wT)] [])) _
  refine own_back (fun t k => XS.iinc X223.here hx rfl (hb hby ofn_d34) rfl (l' := #[.val .null, .val (.ref ab209), .val (.int (2 : Int32)), .val (.int (2 : Int32)), .val (.ref wT)]) rfl k) ?_
  show OwnGo p e below (T223.setTop (mkF m 37 #[.val .null, .val (.ref ab209), .val (.int (2 : Int32)), .val (.int (2 : Int32)), .val (.ref wT)] [])) _
  refine own_back (fun t k => XS.goto X223.here hx rfl (pc0 := 37) (pc' := 9) rfl (hb hby ofn_d37) (by decide) (by decide) k) ?_
  show OwnGo p e below (T223.setTop (mkF m 9 #[.val .null, .val (.ref ab209), .val (.int (2 : Int32)), .val (.int (2 : Int32)), .val (.ref wT)] [])) _
  refine own_back (fun t k => XS.iloadN X223.here hx rfl (hb hby ofn_d9) rfl k) ?_
  show OwnGo p e below (T223.setTop (mkF m 10 #[.val .null, .val (.ref ab209), .val (.int (2 : Int32)), .val (.int (2 : Int32)), .val (.ref wT)] [(.int (2 : Int32))])) _
  refine own_back (fun t k => XS.iloadN X223.here hx rfl (hb hby ofn_d10) rfl k) ?_
  show OwnGo p e below (T223.setTop (mkF m 11 #[.val .null, .val (.ref ab209), .val (.int (2 : Int32)), .val (.int (2 : Int32)), .val (.ref wT)] [(.int (2 : Int32)), (.int (2 : Int32))])) _
  refine own_back (fun t k => XS.icmpYes X223.here hx rfl (pc0 := 11) (pc' := 40) rfl (hb hby ofn_d11) rfl (Jvm.Free.XT.ii_ge_t (by decide)) (by decide) (by decide) k) ?_
  show OwnGo p e below (T223.setTop (mkF m 40 #[.val .null, .val (.ref ab209), .val (.int (2 : Int32)), .val (.int (2 : Int32)), .val (.ref wT)] [])) _
  refine own_back (fun t k => XS.aconstNull X223.here hx rfl (hb hby ofn_d40) k) ?_
  show OwnGo p e below (T223.setTop (mkF m 41 #[.val .null, .val (.ref ab209), .val (.int (2 : Int32)), .val (.int (2 : Int32)), .val (.ref wT)] [.null])) _
  refine own_retA X223 hx Bd.notSynchronized Bd.returns rfl rfl (hb hby ofn_d41) hh223 (Nat.le_of_ble_eq_true rfl) (Nat.le_of_ble_eq_true rfl) ?_
  exact ⟨rfl, N223, own_ext KP211⟩
def own_mk (f0 f1 f2 f3 f4 f5 f6 ln : Int32) : List Int32 := if ln = 0 then [] else if ln = 1 then [own_b f0] else if ln = 2 then [own_b f0, own_b f1] else if ln = 3 then [own_b f0, own_b f1, own_b f2] else if ln = 4 then [own_b f0, own_b f1, own_b f2, own_b f3] else if ln = 5 then [own_b f0, own_b f1, own_b f2, own_b f3, own_b f4] else if ln = 6 then [own_b f0, own_b f1, own_b f2, own_b f3, own_b f4, own_b f5] else [own_b f0, own_b f1, own_b f2, own_b f3, own_b f4, own_b f5, own_b f6]
def OwnCh (f : Int32) : Prop := ¬ f < 0 ∧ ¬ (255 : Int32) < f
theorem OwnCh.int {f : Int32} (h : OwnCh f) : 0 ≤ f.toInt ∧ f.toInt ≤ 255 := by
  obtain ⟨h1, h2⟩ := h
  rw [Int32.lt_iff_toInt_lt] at h1 h2
  have z : (0 : Int32).toInt = 0 := rfl
  have z2 : (255 : Int32).toInt = 255 := rfl
  omega
theorem OwnCh.of {f : Int32} (h : 0 ≤ f.toInt ∧ f.toInt ≤ 255) : OwnCh f := by
  have z : (0 : Int32).toInt = 0 := rfl
  have z2 : (255 : Int32).toInt = 255 := rfl
  constructor <;> rw [Int32.lt_iff_toInt_lt] <;> omega
theorem own_narc {f : Int32} (h : OwnCh f) : (nar .char f).toInt = f.toInt := by
  have h1 := h.int
  have h2 := c_i2c f
  show f.toUInt32.toUInt16.toUInt32.toInt32.toInt = _
  omega
theorem own_hpn {f : Int32} (h : OwnCh f) : ¬ nar .char f < 0 ∧ ¬ (255 : Int32) < nar .char f := by
  have h1 := h.int
  have h2 := own_narc h
  exact OwnCh.of (f := nar .char f) (by omega)
theorem own_bk {f k : Int32} (h : OwnCh f) (hk : 0 ≤ k.toInt ∧ k.toInt ≤ 127) (e : own_b f = k) : f = k := by
  have h1 := h.int
  have h2 := own_narc h
  have h3 := c_i2b (nar .char f)
  have h4 : (own_b f).toInt = k.toInt := congrArg _ e
  apply Int32.toInt_inj.mp
  have h5 : (nar .char f).toInt8.toInt32.toInt = k.toInt := h4
  omega
theorem own_m255 (x : Int32) : OwnCh (x &&& (255 : Int32)) := by
  have h := c_and x 255 (by decide)
  have z2 : (255 : Int32).toInt = 255 := rfl
  exact OwnCh.of (by omega)
theorem own_xor {c m : Int32} (hc : OwnCh c) (hm : OwnCh m) : OwnCh (nar .char ((c ^^^ m).toUInt32.toUInt16.toUInt32.toInt32)) := by
  have t : ∀ a b : Fin 256, ((Int32.ofNat a.val) ^^^ (Int32.ofNat b.val)) = Int32.ofNat (a.val ^^^ b.val) := by
    intro a b
    apply Int32.toBitVec_inj.mp
    show (BitVec.ofNat 32 a.val) ^^^ (BitVec.ofNat 32 b.val) = BitVec.ofNat 32 (a.val ^^^ b.val)
    apply BitVec.eq_of_toNat_eq
    simp only [BitVec.toNat_xor, BitVec.toNat_ofNat]
    rw [Nat.mod_eq_of_lt (by have := a.isLt; omega), Nat.mod_eq_of_lt (by have := b.isLt; omega), Nat.mod_eq_of_lt (Nat.lt_of_lt_of_le (Nat.xor_lt_two_pow (n := 8) a.isLt b.isLt) (by decide))]
  have q : ∀ {f : Int32}, OwnCh f → ∃ a : Fin 256, f = Int32.ofNat a.val := by
    intro f h
    have h1 := h.int
    refine ⟨⟨f.toInt.toNat, by omega⟩, ?_⟩
    apply Int32.toInt_inj.mp
    rw [own_i32 (by show f.toInt.toNat < 2 ^ 31; omega)]
    show f.toInt = (f.toInt.toNat : Int)
    omega
  obtain ⟨a, rfl⟩ := q hc
  obtain ⟨b, rfl⟩ := q hm
  rw [t a b]
  have hx : a.val ^^^ b.val < 256 := Nat.xor_lt_two_pow (n := 8) a.isLt b.isLt
  have hz : OwnCh (Int32.ofNat (a.val ^^^ b.val)) := OwnCh.of (by rw [own_i32 (by omega)]; omega)
  have h0 := hz.int
  have h3 := c_i2c (Int32.ofNat (a.val ^^^ b.val))
  have h4 : OwnCh ((Int32.ofNat (a.val ^^^ b.val)).toUInt32.toUInt16.toUInt32.toInt32) := OwnCh.of (by omega)
  have h5 := own_narc h4
  have h6 := h4.int
  exact OwnCh.of (by omega)
theorem own_ln (x : Int32) : 0 ≤ (x &&& (7 : Int32)).toInt ∧ (x &&& (7 : Int32)).toInt ≤ 7 := by
  have h := c_and x 7 (by decide)
  have z2 : (7 : Int32).toInt = 7 := rfl
  omega
theorem own_of5 {f0 f1 f2 f3 f4 f5 f6 ln p0 p1 p2 p3 p4 : Int32} (h : [p0, p1, p2, p3, p4] = own_mk f0 f1 f2 f3 f4 f5 f6 ln) : ln = 5 ∧ own_b f0 = p0 ∧ own_b f1 = p1 ∧ own_b f2 = p2 ∧ own_b f3 = p3 ∧ own_b f4 = p4 := by
  unfold own_mk at h
  by_cases l0 : ln = 0
  · rw [if_pos l0] at h; simp at h
  rw [if_neg l0] at h
  by_cases l1 : ln = 1
  · rw [if_pos l1] at h; simp at h
  rw [if_neg l1] at h
  by_cases l2 : ln = 2
  · rw [if_pos l2] at h; simp at h
  rw [if_neg l2] at h
  by_cases l3 : ln = 3
  · rw [if_pos l3] at h; simp at h
  rw [if_neg l3] at h
  by_cases l4 : ln = 4
  · rw [if_pos l4] at h; simp at h
  rw [if_neg l4] at h
  by_cases l5 : ln = 5
  · rw [if_pos l5] at h
    injection h with a0 h
    injection h with a1 h
    injection h with a2 h
    injection h with a3 h
    injection h with a4 h
    exact ⟨l5, a0.symm, a1.symm, a2.symm, a3.symm, a4.symm⟩
  rw [if_neg l5] at h
  by_cases l6 : ln = 6
  · rw [if_pos l6] at h; simp at h
  rw [if_neg l6] at h; simp at h
theorem own_to5 {f0 f1 f2 f3 f4 f5 f6 ln p0 p1 p2 p3 p4 : Int32} (hl : ln = 5) (h0 : own_b f0 = p0) (h1 : own_b f1 = p1) (h2 : own_b f2 = p2) (h3 : own_b f3 = p3) (h4 : own_b f4 = p4) : [p0, p1, p2, p3, p4] = own_mk f0 f1 f2 f3 f4 f5 f6 ln := by
  subst hl h0 h1 h2 h3 h4
  rfl
theorem mk_d0 : decode method_2_code 0 = .ok (.iload_n 1, 1) := by decide +kernel
theorem mk_d1 : decode method_2_code 1 = .ok (.ifCond .ne 14, 3) := by decide +kernel
theorem mk_d4 : decode method_2_code 4 = .ok (.new 7, 3) := by decide +kernel
theorem mk_d7 : decode method_2_code 7 = .ok (.dup, 1) := by decide +kernel
theorem mk_d8 : decode method_2_code 8 = .ok (.iconst 0, 1) := by decide +kernel
theorem mk_d9 : decode method_2_code 9 = .ok (.newarray .char, 2) := by decide +kernel
theorem mk_d11 : decode method_2_code 11 = .ok (.invokespecial 9, 3) := by decide +kernel
theorem mk_d14 : decode method_2_code 14 = .ok (.areturn, 1) := by decide +kernel
theorem mk_d15 : decode method_2_code 15 = .ok (.iload_n 1, 1) := by decide +kernel
theorem mk_d16 : decode method_2_code 16 = .ok (.iconst 1, 1) := by decide +kernel
theorem mk_d17 : decode method_2_code 17 = .ok (.if_icmp .ne 20, 3) := by decide +kernel
theorem mk_d20 : decode method_2_code 20 = .ok (.new 7, 3) := by decide +kernel
theorem mk_d23 : decode method_2_code 23 = .ok (.dup, 1) := by decide +kernel
theorem mk_d24 : decode method_2_code 24 = .ok (.iconst 1, 1) := by decide +kernel
theorem mk_d25 : decode method_2_code 25 = .ok (.newarray .char, 2) := by decide +kernel
theorem mk_d27 : decode method_2_code 27 = .ok (.dup, 1) := by decide +kernel
theorem mk_d28 : decode method_2_code 28 = .ok (.iconst 0, 1) := by decide +kernel
theorem mk_d29 : decode method_2_code 29 = .ok (.aload_n 0, 1) := by decide +kernel
theorem mk_d30 : decode method_2_code 30 = .ok (.iconst 0, 1) := by decide +kernel
theorem mk_d31 : decode method_2_code 31 = .ok (.caload, 1) := by decide +kernel
theorem mk_d32 : decode method_2_code 32 = .ok (.castore, 1) := by decide +kernel
theorem mk_d33 : decode method_2_code 33 = .ok (.invokespecial 9, 3) := by decide +kernel
theorem mk_d36 : decode method_2_code 36 = .ok (.areturn, 1) := by decide +kernel
theorem mk_d37 : decode method_2_code 37 = .ok (.iload_n 1, 1) := by decide +kernel
theorem mk_d38 : decode method_2_code 38 = .ok (.iconst 2, 1) := by decide +kernel
theorem mk_d39 : decode method_2_code 39 = .ok (.if_icmp .ne 26, 3) := by decide +kernel
theorem mk_d42 : decode method_2_code 42 = .ok (.new 7, 3) := by decide +kernel
theorem mk_d45 : decode method_2_code 45 = .ok (.dup, 1) := by decide +kernel
theorem mk_d46 : decode method_2_code 46 = .ok (.iconst 2, 1) := by decide +kernel
theorem mk_d47 : decode method_2_code 47 = .ok (.newarray .char, 2) := by decide +kernel
theorem mk_d49 : decode method_2_code 49 = .ok (.dup, 1) := by decide +kernel
theorem mk_d50 : decode method_2_code 50 = .ok (.iconst 0, 1) := by decide +kernel
theorem mk_d51 : decode method_2_code 51 = .ok (.aload_n 0, 1) := by decide +kernel
theorem mk_d52 : decode method_2_code 52 = .ok (.iconst 0, 1) := by decide +kernel
theorem mk_d53 : decode method_2_code 53 = .ok (.caload, 1) := by decide +kernel
theorem mk_d54 : decode method_2_code 54 = .ok (.castore, 1) := by decide +kernel
theorem mk_d55 : decode method_2_code 55 = .ok (.dup, 1) := by decide +kernel
theorem mk_d56 : decode method_2_code 56 = .ok (.iconst 1, 1) := by decide +kernel
theorem mk_d57 : decode method_2_code 57 = .ok (.aload_n 0, 1) := by decide +kernel
theorem mk_d58 : decode method_2_code 58 = .ok (.iconst 1, 1) := by decide +kernel
theorem mk_d59 : decode method_2_code 59 = .ok (.caload, 1) := by decide +kernel
theorem mk_d60 : decode method_2_code 60 = .ok (.castore, 1) := by decide +kernel
theorem mk_d61 : decode method_2_code 61 = .ok (.invokespecial 9, 3) := by decide +kernel
theorem mk_d64 : decode method_2_code 64 = .ok (.areturn, 1) := by decide +kernel
theorem mk_d65 : decode method_2_code 65 = .ok (.iload_n 1, 1) := by decide +kernel
theorem mk_d66 : decode method_2_code 66 = .ok (.iconst 3, 1) := by decide +kernel
theorem mk_d67 : decode method_2_code 67 = .ok (.if_icmp .ne 32, 3) := by decide +kernel
theorem mk_d70 : decode method_2_code 70 = .ok (.new 7, 3) := by decide +kernel
theorem mk_d73 : decode method_2_code 73 = .ok (.dup, 1) := by decide +kernel
theorem mk_d74 : decode method_2_code 74 = .ok (.iconst 3, 1) := by decide +kernel
theorem mk_d75 : decode method_2_code 75 = .ok (.newarray .char, 2) := by decide +kernel
theorem mk_d77 : decode method_2_code 77 = .ok (.dup, 1) := by decide +kernel
theorem mk_d78 : decode method_2_code 78 = .ok (.iconst 0, 1) := by decide +kernel
theorem mk_d79 : decode method_2_code 79 = .ok (.aload_n 0, 1) := by decide +kernel
theorem mk_d80 : decode method_2_code 80 = .ok (.iconst 0, 1) := by decide +kernel
theorem mk_d81 : decode method_2_code 81 = .ok (.caload, 1) := by decide +kernel
theorem mk_d82 : decode method_2_code 82 = .ok (.castore, 1) := by decide +kernel
theorem mk_d83 : decode method_2_code 83 = .ok (.dup, 1) := by decide +kernel
theorem mk_d84 : decode method_2_code 84 = .ok (.iconst 1, 1) := by decide +kernel
theorem mk_d85 : decode method_2_code 85 = .ok (.aload_n 0, 1) := by decide +kernel
theorem mk_d86 : decode method_2_code 86 = .ok (.iconst 1, 1) := by decide +kernel
theorem mk_d87 : decode method_2_code 87 = .ok (.caload, 1) := by decide +kernel
theorem mk_d88 : decode method_2_code 88 = .ok (.castore, 1) := by decide +kernel
theorem mk_d89 : decode method_2_code 89 = .ok (.dup, 1) := by decide +kernel
theorem mk_d90 : decode method_2_code 90 = .ok (.iconst 2, 1) := by decide +kernel
theorem mk_d91 : decode method_2_code 91 = .ok (.aload_n 0, 1) := by decide +kernel
theorem mk_d92 : decode method_2_code 92 = .ok (.iconst 2, 1) := by decide +kernel
theorem mk_d93 : decode method_2_code 93 = .ok (.caload, 1) := by decide +kernel
theorem mk_d94 : decode method_2_code 94 = .ok (.castore, 1) := by decide +kernel
theorem mk_d95 : decode method_2_code 95 = .ok (.invokespecial 9, 3) := by decide +kernel
theorem mk_d98 : decode method_2_code 98 = .ok (.areturn, 1) := by decide +kernel
theorem mk_d99 : decode method_2_code 99 = .ok (.iload_n 1, 1) := by decide +kernel
theorem mk_d100 : decode method_2_code 100 = .ok (.iconst 4, 1) := by decide +kernel
theorem mk_d101 : decode method_2_code 101 = .ok (.if_icmp .ne 38, 3) := by decide +kernel
theorem mk_d104 : decode method_2_code 104 = .ok (.new 7, 3) := by decide +kernel
theorem mk_d107 : decode method_2_code 107 = .ok (.dup, 1) := by decide +kernel
theorem mk_d108 : decode method_2_code 108 = .ok (.iconst 4, 1) := by decide +kernel
theorem mk_d109 : decode method_2_code 109 = .ok (.newarray .char, 2) := by decide +kernel
theorem mk_d111 : decode method_2_code 111 = .ok (.dup, 1) := by decide +kernel
theorem mk_d112 : decode method_2_code 112 = .ok (.iconst 0, 1) := by decide +kernel
theorem mk_d113 : decode method_2_code 113 = .ok (.aload_n 0, 1) := by decide +kernel
theorem mk_d114 : decode method_2_code 114 = .ok (.iconst 0, 1) := by decide +kernel
theorem mk_d115 : decode method_2_code 115 = .ok (.caload, 1) := by decide +kernel
theorem mk_d116 : decode method_2_code 116 = .ok (.castore, 1) := by decide +kernel
theorem mk_d117 : decode method_2_code 117 = .ok (.dup, 1) := by decide +kernel
theorem mk_d118 : decode method_2_code 118 = .ok (.iconst 1, 1) := by decide +kernel
theorem mk_d119 : decode method_2_code 119 = .ok (.aload_n 0, 1) := by decide +kernel
theorem mk_d120 : decode method_2_code 120 = .ok (.iconst 1, 1) := by decide +kernel
theorem mk_d121 : decode method_2_code 121 = .ok (.caload, 1) := by decide +kernel
theorem mk_d122 : decode method_2_code 122 = .ok (.castore, 1) := by decide +kernel
theorem mk_d123 : decode method_2_code 123 = .ok (.dup, 1) := by decide +kernel
theorem mk_d124 : decode method_2_code 124 = .ok (.iconst 2, 1) := by decide +kernel
theorem mk_d125 : decode method_2_code 125 = .ok (.aload_n 0, 1) := by decide +kernel
theorem mk_d126 : decode method_2_code 126 = .ok (.iconst 2, 1) := by decide +kernel
theorem mk_d127 : decode method_2_code 127 = .ok (.caload, 1) := by decide +kernel
theorem mk_d128 : decode method_2_code 128 = .ok (.castore, 1) := by decide +kernel
theorem mk_d129 : decode method_2_code 129 = .ok (.dup, 1) := by decide +kernel
theorem mk_d130 : decode method_2_code 130 = .ok (.iconst 3, 1) := by decide +kernel
theorem mk_d131 : decode method_2_code 131 = .ok (.aload_n 0, 1) := by decide +kernel
theorem mk_d132 : decode method_2_code 132 = .ok (.iconst 3, 1) := by decide +kernel
theorem mk_d133 : decode method_2_code 133 = .ok (.caload, 1) := by decide +kernel
theorem mk_d134 : decode method_2_code 134 = .ok (.castore, 1) := by decide +kernel
theorem mk_d135 : decode method_2_code 135 = .ok (.invokespecial 9, 3) := by decide +kernel
theorem mk_d138 : decode method_2_code 138 = .ok (.areturn, 1) := by decide +kernel
theorem mk_d139 : decode method_2_code 139 = .ok (.iload_n 1, 1) := by decide +kernel
theorem mk_d140 : decode method_2_code 140 = .ok (.iconst 5, 1) := by decide +kernel
theorem mk_d141 : decode method_2_code 141 = .ok (.if_icmp .ne 44, 3) := by decide +kernel
theorem mk_d144 : decode method_2_code 144 = .ok (.new 7, 3) := by decide +kernel
theorem mk_d147 : decode method_2_code 147 = .ok (.dup, 1) := by decide +kernel
theorem mk_d148 : decode method_2_code 148 = .ok (.iconst 5, 1) := by decide +kernel
theorem mk_d149 : decode method_2_code 149 = .ok (.newarray .char, 2) := by decide +kernel
theorem mk_d151 : decode method_2_code 151 = .ok (.dup, 1) := by decide +kernel
theorem mk_d152 : decode method_2_code 152 = .ok (.iconst 0, 1) := by decide +kernel
theorem mk_d153 : decode method_2_code 153 = .ok (.aload_n 0, 1) := by decide +kernel
theorem mk_d154 : decode method_2_code 154 = .ok (.iconst 0, 1) := by decide +kernel
theorem mk_d155 : decode method_2_code 155 = .ok (.caload, 1) := by decide +kernel
theorem mk_d156 : decode method_2_code 156 = .ok (.castore, 1) := by decide +kernel
theorem mk_d157 : decode method_2_code 157 = .ok (.dup, 1) := by decide +kernel
theorem mk_d158 : decode method_2_code 158 = .ok (.iconst 1, 1) := by decide +kernel
theorem mk_d159 : decode method_2_code 159 = .ok (.aload_n 0, 1) := by decide +kernel
theorem mk_d160 : decode method_2_code 160 = .ok (.iconst 1, 1) := by decide +kernel
theorem mk_d161 : decode method_2_code 161 = .ok (.caload, 1) := by decide +kernel
theorem mk_d162 : decode method_2_code 162 = .ok (.castore, 1) := by decide +kernel
theorem mk_d163 : decode method_2_code 163 = .ok (.dup, 1) := by decide +kernel
theorem mk_d164 : decode method_2_code 164 = .ok (.iconst 2, 1) := by decide +kernel
theorem mk_d165 : decode method_2_code 165 = .ok (.aload_n 0, 1) := by decide +kernel
theorem mk_d166 : decode method_2_code 166 = .ok (.iconst 2, 1) := by decide +kernel
theorem mk_d167 : decode method_2_code 167 = .ok (.caload, 1) := by decide +kernel
theorem mk_d168 : decode method_2_code 168 = .ok (.castore, 1) := by decide +kernel
theorem mk_d169 : decode method_2_code 169 = .ok (.dup, 1) := by decide +kernel
theorem mk_d170 : decode method_2_code 170 = .ok (.iconst 3, 1) := by decide +kernel
theorem mk_d171 : decode method_2_code 171 = .ok (.aload_n 0, 1) := by decide +kernel
theorem mk_d172 : decode method_2_code 172 = .ok (.iconst 3, 1) := by decide +kernel
theorem mk_d173 : decode method_2_code 173 = .ok (.caload, 1) := by decide +kernel
theorem mk_d174 : decode method_2_code 174 = .ok (.castore, 1) := by decide +kernel
theorem mk_d175 : decode method_2_code 175 = .ok (.dup, 1) := by decide +kernel
theorem mk_d176 : decode method_2_code 176 = .ok (.iconst 4, 1) := by decide +kernel
theorem mk_d177 : decode method_2_code 177 = .ok (.aload_n 0, 1) := by decide +kernel
theorem mk_d178 : decode method_2_code 178 = .ok (.iconst 4, 1) := by decide +kernel
theorem mk_d179 : decode method_2_code 179 = .ok (.caload, 1) := by decide +kernel
theorem mk_d180 : decode method_2_code 180 = .ok (.castore, 1) := by decide +kernel
theorem mk_d181 : decode method_2_code 181 = .ok (.invokespecial 9, 3) := by decide +kernel
theorem mk_d184 : decode method_2_code 184 = .ok (.areturn, 1) := by decide +kernel
theorem mk_d185 : decode method_2_code 185 = .ok (.iload_n 1, 1) := by decide +kernel
theorem mk_d186 : decode method_2_code 186 = .ok (.bipush 6, 2) := by decide +kernel
theorem mk_d188 : decode method_2_code 188 = .ok (.if_icmp .ne 51, 3) := by decide +kernel
theorem mk_d191 : decode method_2_code 191 = .ok (.new 7, 3) := by decide +kernel
theorem mk_d194 : decode method_2_code 194 = .ok (.dup, 1) := by decide +kernel
theorem mk_d195 : decode method_2_code 195 = .ok (.bipush 6, 2) := by decide +kernel
theorem mk_d197 : decode method_2_code 197 = .ok (.newarray .char, 2) := by decide +kernel
theorem mk_d199 : decode method_2_code 199 = .ok (.dup, 1) := by decide +kernel
theorem mk_d200 : decode method_2_code 200 = .ok (.iconst 0, 1) := by decide +kernel
theorem mk_d201 : decode method_2_code 201 = .ok (.aload_n 0, 1) := by decide +kernel
theorem mk_d202 : decode method_2_code 202 = .ok (.iconst 0, 1) := by decide +kernel
theorem mk_d203 : decode method_2_code 203 = .ok (.caload, 1) := by decide +kernel
theorem mk_d204 : decode method_2_code 204 = .ok (.castore, 1) := by decide +kernel
theorem mk_d205 : decode method_2_code 205 = .ok (.dup, 1) := by decide +kernel
theorem mk_d206 : decode method_2_code 206 = .ok (.iconst 1, 1) := by decide +kernel
theorem mk_d207 : decode method_2_code 207 = .ok (.aload_n 0, 1) := by decide +kernel
theorem mk_d208 : decode method_2_code 208 = .ok (.iconst 1, 1) := by decide +kernel
theorem mk_d209 : decode method_2_code 209 = .ok (.caload, 1) := by decide +kernel
theorem mk_d210 : decode method_2_code 210 = .ok (.castore, 1) := by decide +kernel
theorem mk_d211 : decode method_2_code 211 = .ok (.dup, 1) := by decide +kernel
theorem mk_d212 : decode method_2_code 212 = .ok (.iconst 2, 1) := by decide +kernel
theorem mk_d213 : decode method_2_code 213 = .ok (.aload_n 0, 1) := by decide +kernel
theorem mk_d214 : decode method_2_code 214 = .ok (.iconst 2, 1) := by decide +kernel
theorem mk_d215 : decode method_2_code 215 = .ok (.caload, 1) := by decide +kernel
theorem mk_d216 : decode method_2_code 216 = .ok (.castore, 1) := by decide +kernel
theorem mk_d217 : decode method_2_code 217 = .ok (.dup, 1) := by decide +kernel
theorem mk_d218 : decode method_2_code 218 = .ok (.iconst 3, 1) := by decide +kernel
theorem mk_d219 : decode method_2_code 219 = .ok (.aload_n 0, 1) := by decide +kernel
theorem mk_d220 : decode method_2_code 220 = .ok (.iconst 3, 1) := by decide +kernel
theorem mk_d221 : decode method_2_code 221 = .ok (.caload, 1) := by decide +kernel
theorem mk_d222 : decode method_2_code 222 = .ok (.castore, 1) := by decide +kernel
theorem mk_d223 : decode method_2_code 223 = .ok (.dup, 1) := by decide +kernel
theorem mk_d224 : decode method_2_code 224 = .ok (.iconst 4, 1) := by decide +kernel
theorem mk_d225 : decode method_2_code 225 = .ok (.aload_n 0, 1) := by decide +kernel
theorem mk_d226 : decode method_2_code 226 = .ok (.iconst 4, 1) := by decide +kernel
theorem mk_d227 : decode method_2_code 227 = .ok (.caload, 1) := by decide +kernel
theorem mk_d228 : decode method_2_code 228 = .ok (.castore, 1) := by decide +kernel
theorem mk_d229 : decode method_2_code 229 = .ok (.dup, 1) := by decide +kernel
theorem mk_d230 : decode method_2_code 230 = .ok (.iconst 5, 1) := by decide +kernel
theorem mk_d231 : decode method_2_code 231 = .ok (.aload_n 0, 1) := by decide +kernel
theorem mk_d232 : decode method_2_code 232 = .ok (.iconst 5, 1) := by decide +kernel
theorem mk_d233 : decode method_2_code 233 = .ok (.caload, 1) := by decide +kernel
theorem mk_d234 : decode method_2_code 234 = .ok (.castore, 1) := by decide +kernel
theorem mk_d235 : decode method_2_code 235 = .ok (.invokespecial 9, 3) := by decide +kernel
theorem mk_d238 : decode method_2_code 238 = .ok (.areturn, 1) := by decide +kernel
theorem mk_d239 : decode method_2_code 239 = .ok (.new 7, 3) := by decide +kernel
theorem mk_d242 : decode method_2_code 242 = .ok (.dup, 1) := by decide +kernel
theorem mk_d243 : decode method_2_code 243 = .ok (.bipush 7, 2) := by decide +kernel
theorem mk_d245 : decode method_2_code 245 = .ok (.newarray .char, 2) := by decide +kernel
theorem mk_d247 : decode method_2_code 247 = .ok (.dup, 1) := by decide +kernel
theorem mk_d248 : decode method_2_code 248 = .ok (.iconst 0, 1) := by decide +kernel
theorem mk_d249 : decode method_2_code 249 = .ok (.aload_n 0, 1) := by decide +kernel
theorem mk_d250 : decode method_2_code 250 = .ok (.iconst 0, 1) := by decide +kernel
theorem mk_d251 : decode method_2_code 251 = .ok (.caload, 1) := by decide +kernel
theorem mk_d252 : decode method_2_code 252 = .ok (.castore, 1) := by decide +kernel
theorem mk_d253 : decode method_2_code 253 = .ok (.dup, 1) := by decide +kernel
theorem mk_d254 : decode method_2_code 254 = .ok (.iconst 1, 1) := by decide +kernel
theorem mk_d255 : decode method_2_code 255 = .ok (.aload_n 0, 1) := by decide +kernel
theorem mk_d256 : decode method_2_code 256 = .ok (.iconst 1, 1) := by decide +kernel
theorem mk_d257 : decode method_2_code 257 = .ok (.caload, 1) := by decide +kernel
theorem mk_d258 : decode method_2_code 258 = .ok (.castore, 1) := by decide +kernel
theorem mk_d259 : decode method_2_code 259 = .ok (.dup, 1) := by decide +kernel
theorem mk_d260 : decode method_2_code 260 = .ok (.iconst 2, 1) := by decide +kernel
theorem mk_d261 : decode method_2_code 261 = .ok (.aload_n 0, 1) := by decide +kernel
theorem mk_d262 : decode method_2_code 262 = .ok (.iconst 2, 1) := by decide +kernel
theorem mk_d263 : decode method_2_code 263 = .ok (.caload, 1) := by decide +kernel
theorem mk_d264 : decode method_2_code 264 = .ok (.castore, 1) := by decide +kernel
theorem mk_d265 : decode method_2_code 265 = .ok (.dup, 1) := by decide +kernel
theorem mk_d266 : decode method_2_code 266 = .ok (.iconst 3, 1) := by decide +kernel
theorem mk_d267 : decode method_2_code 267 = .ok (.aload_n 0, 1) := by decide +kernel
theorem mk_d268 : decode method_2_code 268 = .ok (.iconst 3, 1) := by decide +kernel
theorem mk_d269 : decode method_2_code 269 = .ok (.caload, 1) := by decide +kernel
theorem mk_d270 : decode method_2_code 270 = .ok (.castore, 1) := by decide +kernel
theorem mk_d271 : decode method_2_code 271 = .ok (.dup, 1) := by decide +kernel
theorem mk_d272 : decode method_2_code 272 = .ok (.iconst 4, 1) := by decide +kernel
theorem mk_d273 : decode method_2_code 273 = .ok (.aload_n 0, 1) := by decide +kernel
theorem mk_d274 : decode method_2_code 274 = .ok (.iconst 4, 1) := by decide +kernel
theorem mk_d275 : decode method_2_code 275 = .ok (.caload, 1) := by decide +kernel
theorem mk_d276 : decode method_2_code 276 = .ok (.castore, 1) := by decide +kernel
theorem mk_d277 : decode method_2_code 277 = .ok (.dup, 1) := by decide +kernel
theorem mk_d278 : decode method_2_code 278 = .ok (.iconst 5, 1) := by decide +kernel
theorem mk_d279 : decode method_2_code 279 = .ok (.aload_n 0, 1) := by decide +kernel
theorem mk_d280 : decode method_2_code 280 = .ok (.iconst 5, 1) := by decide +kernel
theorem mk_d281 : decode method_2_code 281 = .ok (.caload, 1) := by decide +kernel
theorem mk_d282 : decode method_2_code 282 = .ok (.castore, 1) := by decide +kernel
theorem mk_d283 : decode method_2_code 283 = .ok (.dup, 1) := by decide +kernel
theorem mk_d284 : decode method_2_code 284 = .ok (.bipush 6, 2) := by decide +kernel
theorem mk_d286 : decode method_2_code 286 = .ok (.aload_n 0, 1) := by decide +kernel
theorem mk_d287 : decode method_2_code 287 = .ok (.bipush 6, 2) := by decide +kernel
theorem mk_d289 : decode method_2_code 289 = .ok (.caload, 1) := by decide +kernel
theorem mk_d290 : decode method_2_code 290 = .ok (.castore, 1) := by decide +kernel
theorem mk_d291 : decode method_2_code 291 = .ok (.invokespecial 9, 3) := by decide +kernel
theorem mk_d294 : decode method_2_code 294 = .ok (.areturn, 1) := by decide +kernel
theorem mk_pn : plainName "com/example/indexwright/indexwright/bond/BondVariantOfPinLaw" = true := by first | (simp [plainName, overriddenIn]; done) | decide +kernel
theorem mk_pd0 : parseMethodDescriptor "([C)V" = some ⟨[(.array .char)], none⟩ := by decide +kernel
theorem mk_ef (m : MethodId) (x0 : Addr) (x1 : Int32) : entryFrame m #[(.ref x0), (.int x1)] 2 = mkF m 0 #[.val (.ref x0), .val (.int x1)] [] := by first | (simp [entryFrame, mkF, argsToLocals, Value.category]; done) | rfl
set_option maxRecDepth 65536 in
set_option maxHeartbeats 40000000 in
theorem rm_mk (l : Launch) (Z : State) (a0 : Array Value) (hw : ∀ d ∈ tables_1, d.before a0 Z = true) (ws : List Jvm.Cond) (fa : Addr) (ln : Int32) (kf : ClassId) (f0 : Int32) (f1 : Int32) (f2 : Int32) (f3 : Int32) (f4 : Int32) (f5 : Int32) (f6 : Int32) (cz : Int32) (h0 : Heap) (n0 : Nat) (Z0 : n0 ≤ h0.size) (OL : Old Z n0 h0) (VF : Arv Z h0 fa kf .char (7 : Int32) [.int f0, .int f1, .int f2, .int f3, .int f4, .int f5, .int f6] (.int 0)) (H0 : OwnCh f0) (H1 : OwnCh f1) (H2 : OwnCh f2) (H3 : OwnCh f3) (H4 : OwnCh f4) (H5 : OwnCh f5) (H6 : OwnCh f6) (SC : Sta Z Z.heap "java/lang/String" "COMPACT_STRINGS" "Z" (.int cz)) (hcz : ¬ cz = 0) :
    MetFree l (⟨"com/example/indexwright/indexwright/bond/BondVariantOfPinLaw", "make", "([CI)Ljava/lang/String;"⟩ : MethodName) (head1 (Jvm.Cond.code (⟨"com/example/indexwright/indexwright/bond/BondVariantOfPinLaw", "make", "([CI)Ljava/lang/String;"⟩ : MethodName) method_2_code 2 (some (.object "java/lang/String")) :: ws) ({ frames := 4, cells := 6, slots := 18, locals := 66 } : Room)) (fun a U => a = #[(.ref fa), (.int ln)] ∧ Z.Warmed39 U.vm ∧ U.heap = h0 ∧ CHv Z own_EL U.vm h0 ∧ ∀ x ∈ ([] : List Addr), Safe Z own_EL U.vm h0 x) (fun _ _ _ _ _ => True) (fun _ U o U' => OwnEndW Z own_EL U (fun v h L => ∃ a, v = some (.ref a) ∧ Fr n0 L ∧ Ext h0 h ∧ OwnStr Z h a (own_mk f0 f1 f2 f3 f4 f5 f6 ln)) ({ frames := 4, cells := 6, slots := 18, locals := 66 } : Room).cells ({ frames := 4, cells := 6, slots := 18, locals := 66 } : Room).slots o U') := by
  refine MetFree.of_bodySF (plainFor_of_name mk_pn) hisR ?_
  intro p e s m args below meth c s₁ Bd hml0 hP hK
  obtain ⟨rfl, hZ, hh, hCH, hSL⟩ := hP
  have hx := Bd.exec
  have hby := Bd.bytes
  have hml : c.maxLocals = 2 := hml0
  have hown : s.vm.findClass "com/example/indexwright/indexwright/bond/BondVariantOfPinLaw" = some m.cls := findClass_of_methodNamed Bd.named
  have hnm := (name_of_methodNamed Bd.named Bd.method).1
  have X0 : Stand p l e ({ frames := 4, cells := 6, slots := 18, locals := 66 } : Room) (s.setVm s.vm) m #[(.ref fa), (.int ln)] below meth c s₁ [] 0 0 := Stand.of_body Bd
  have e0 : s₁.heap = h0 := by rw [← hh, Bd.state]; rfl
  have N0 := Fr.nil n0
  have KP0 := Keep.refl h0 []
  have hown : (s.setVm s.vm).vm.findClass "com/example/indexwright/indexwright/bond/BondVariantOfPinLaw" = some m.cls := hown
  have hZ : Z.Warmed39 (s.setVm s.vm).vm := hZ
  have hS0 : s.Since s.vm 0 := (State.WarmedH.refl s).since 0
  have hk0 : 0 ≤ h0.size := Nat.zero_le _
  have CR0 : CHr Z own_EL s.vm h0 s.vm h0 := CHr.refl hCH
  have hEL := own_EW hw
  refine own_go (Q := (OwnEndW Z own_EL s (fun v h L => ∃ a, v = some (.ref a) ∧ Fr n0 L ∧ Ext h0 h ∧ OwnStr Z h a (own_mk f0 f1 f2 f3 f4 f5 f6 ln)) ({ frames := 4, cells := 6, slots := 18, locals := 66 } : Room).cells ({ frames := 4, cells := 6, slots := 18, locals := 66 } : Room).slots)) ?_
  refine own_back (fun t k => castTop (mk_ef m fa ln) k) ?_
  show OwnGo p e below (s₁.setTop (mkF m 0 #[.val (.ref fa), .val (.int ln)] [])) _
  refine own_back (fun t k => XS.iloadN X0.here hx rfl (hb hby mk_d0) rfl k) ?_
  show OwnGo p e below (s₁.setTop (mkF m 1 #[.val (.ref fa), .val (.int ln)] [(.int ln)])) _
  by_cases hc1_224 : ln = (0 : Int32)
  · refine own_back (fun t k => XS.ifNo X0.here hx rfl (hb hby mk_d1) rfl (Jvm.Free.XT.i0_ne_f hc1_224) k) ?_
    show OwnGo p e below (s₁.setTop (mkF m 4 #[.val (.ref fa), .val (.int ln)] [])) _
    obtain ⟨T225, h225, X225, e225, E225, A225, D225, -, st225⟩ := newO X0 hx hZ hown (hw _ (List.mem_of_getElem? (i := 5) rfl)) (hw _ (List.mem_of_getElem? (i := 6) rfl)) (hw _ (List.mem_of_getElem? (i := 7) rfl)) e0 (g := (mkF m 4 #[.val (.ref fa), .val (.int ln)] [])) rfl (hb hby mk_d4) (Nat.le_of_ble_eq_true rfl) (Nat.le_of_ble_eq_true rfl)
    obtain ⟨b225, g225⟩ : ∃ z, z = h0.size := ⟨_, rfl⟩
    have ge226 : n0 ≤ b225 := Nat.le_trans Z0 (Nat.le_of_eq g225.symm)
    have sz227 : h0.size ≤ b225 := Nat.le_trans KP0.1 (Nat.le_of_eq g225.symm)
    rw [← g225] at A225 D225 st225
    have O228 := OL.ext E225
    have KP229 := KP0.ext E225
    have Zs230 := Nat.le_trans Z0 E225.1
    have CR231 := CR0.trans (CHr.ext E225 CR0.1)
    have hk232 := Nat.le_trans hk0 E225.1
    have f233 := VF.ext E225
    have F234 : Fld Z h225 b225 "java/lang/String" "value" "[B" .null := D225 (Or.inr (hw _ (List.mem_of_getElem? (i := 20) rfl))) (ty := (.array .byte)) (by decide)
    have F235 : Fld Z h225 b225 "java/lang/String" "coder" "B" (.int (0 : Int32)) := D225 (Or.inr (hw _ (List.mem_of_getElem? (i := 21) rfl))) (ty := .byte) (by decide)
    have sf236 := Safe.ext E225 CR0.1 (Safe.new (Nat.le_of_eq g225.symm))
    refine own_back st225 ?_
    show OwnGo p e below (T225.setTop (mkF m 7 #[.val (.ref fa), .val (.int ln)] [(.ref b225)])) _
    refine own_back (fun t k => XS.dup X225.here hx rfl (hb hby mk_d7) rfl rfl k) ?_
    show OwnGo p e below (T225.setTop (mkF m 8 #[.val (.ref fa), .val (.int ln)] [(.ref b225), (.ref b225)])) _
    refine own_back (fun t k => XS.iconst X225.here hx rfl (hb hby mk_d8) k) ?_
    show OwnGo p e below (T225.setTop (mkF m 9 #[.val (.ref fa), .val (.int ln)] [(.int (0 : Int32)), (.ref b225), (.ref b225)])) _
    obtain ⟨T237, h237, k237, X237, e237, E237, A237, st237⟩ := newP X225 hx hZ (hw _ (List.mem_of_getElem? (i := 0) rfl)) e225 (g := (mkF m 9 #[.val (.ref fa), .val (.int ln)] [(.int (0 : Int32)), (.ref b225), (.ref b225)])) rfl (hb hby mk_d9) rfl (by decide) (cap := 0) (by decide) (by decide) (Nat.le_of_ble_eq_true rfl) (Nat.le_of_ble_eq_true rfl)
    obtain ⟨b237, g237⟩ : ∃ z, z = h225.size := ⟨_, rfl⟩
    have ge238 : n0 ≤ b237 := Nat.le_trans Zs230 (Nat.le_of_eq g237.symm)
    have sz239 : h0.size ≤ b237 := Nat.le_trans KP229.1 (Nat.le_of_eq g237.symm)
    rw [← g237] at A237 st237
    have O240 := O228.ext E237
    have KP241 := KP229.ext E237
    have Zs242 := Nat.le_trans Zs230 E237.1
    have CR243 := CR231.trans (CHr.ext E237 CR231.1)
    have hk244 := Nat.le_trans hk232 E237.1
    have f245 := f233.ext E237
    have f246 := A225.ext E237
    have f247 := F234.ext E237
    have f248 := F235.ext E237
    have f249 := (Safe.ext E237 CR231.1 sf236)
    have V250 : Arv Z h237 b237 k237 .char (0 : Int32) [] (.int (0 : Int32)) := (Arv.new A237 (by decide)).pad (pad_rep [] (.int (0 : Int32)) 0)
    have sf251 := Safe.ext E237 CR231.1 (Safe.new (Nat.le_of_eq g237.symm))
    refine own_back st237 ?_
    show OwnGo p e below (T237.setTop (mkF m 11 #[.val (.ref fa), .val (.int ln)] [(.ref b237), (.ref b225), (.ref b225)])) _
    obtain ⟨_, _, ⟨T252, L252, k252, n252⟩, -, X252, hSn252, hgr252, ⟨Lc252, hQ252, l252, y252, z252, CRn252⟩, st252⟩ := X237.specialBackS hx (y := (⟨"java/lang/String", "<init>", "([C)V"⟩ : MethodName)) rfl hown (mvT hZ (hw _ (List.mem_of_getElem? (i := 8) rfl))) (mvT hZ (hw _ (List.mem_of_getElem? (i := 9) rfl))) (mvT hZ (hw _ (List.mem_of_getElem? (i := 10) rfl))) (by decide) (own_backH (W := 1) (rm_si1 l Z a0 hw [] b225 b237 (.int 0) .null k237 h237 n0 Zs242 O240 f246 f248 f247 ge226 V250) hZ (hw _ (List.mem_of_getElem? (i := 10) rfl)) (hw _ (List.mem_of_getElem? (i := 7) rfl)) (by decide) (by decide) hEL CR243.1 (sfS f249 sf0) (allS f246.lt all0)) (g := (mkF m 11 #[.val (.ref fa), .val (.int ln)] [(.ref b237), (.ref b225), (.ref b225)])) rfl (by rw [hml]; rfl) (Steps.refl _) (a := b225) (argsL := [(.ref b237)]) (rest := [(.ref b225)]) (lenOf mk_pd0 rfl) rfl (by show 2 * 0 + _ ≤ _; exact Nat.le_of_eq rfl) (hb hby mk_d11) (fun _ _ => ⟨rfl, e237, Nat.le_of_ble_eq_true rfl, Nat.le_of_ble_eq_true rfl⟩)
    dsimp only [Pt.U, Pt.locs, Pt.cells, Pt.slots] at X252 l252 y252 z252 st252 hQ252 hSn252 hgr252 CRn252
    subst l252 y252 z252
    obtain ⟨Xr252, hSr252, hZr252, hownr252⟩ := rebS hS0 (own_hle e237 hk244) X252 hSn252 hgr252 hZ hown
    obtain ⟨rfl, N252q, K252, B252⟩ := hQ252
    refine own_seq st252 ?_
    have N252 := Fr.app N0 N252q
    have O253 := O240.keep K252 (allS ge226 all0)
    have KP254 := KP241.trans K252 (allS (Or.inr sz227) all0)
    have Zs255 := Nat.le_trans Zs242 K252.1
    have CR256 := CR243.trans CRn252
    have f257 := f245.keep K252 (ninS (Nat.ne_of_lt (Nat.lt_of_lt_of_le VF.lt (Nat.le_of_eq g225.symm))) nin0)
    have f258 := f246.keep K252
    have f259 := (CRn252.safe f246.lt f249)
    have f260 := V250.keep K252 (ninS (Ne.symm (Nat.ne_of_lt (Nat.lt_of_lt_of_le A225.lt (Nat.le_of_eq g237.symm)))) nin0)
    have f261 := (CRn252.safe V250.lt sf251)
    show OwnGo p e below (T252.setTop (mkF m 14 #[.val (.ref fa), .val (.int ln)] [(.ref b225)])) _
    refine own_retAW Xr252 hx Bd.notSynchronized Bd.returns rfl rfl hSr252 (Nat.le_refl _) hZr252 hEL (hh ▸ CR256) (hb hby mk_d14) rfl (Nat.le_of_ble_eq_true rfl) (Nat.le_of_ble_eq_true rfl) ?_
    exact ⟨b225, rfl, N252, own_ext KP254, by rw [own_mk, if_pos hc1_224]; exact B252⟩
  · refine own_back (fun t k => XS.ifYes X0.here hx rfl (pc0 := 1) (pc' := 15) rfl (hb hby mk_d1) rfl (Jvm.Free.XT.i0_ne_t hc1_224) (by decide) (by decide) k) ?_
    show OwnGo p e below (s₁.setTop (mkF m 15 #[.val (.ref fa), .val (.int ln)] [])) _
    refine own_back (fun t k => XS.iloadN X0.here hx rfl (hb hby mk_d15) rfl k) ?_
    show OwnGo p e below (s₁.setTop (mkF m 16 #[.val (.ref fa), .val (.int ln)] [(.int ln)])) _
    refine own_back (fun t k => XS.iconst X0.here hx rfl (hb hby mk_d16) k) ?_
    show OwnGo p e below (s₁.setTop (mkF m 17 #[.val (.ref fa), .val (.int ln)] [(.int (1 : Int32)), (.int ln)])) _
    by_cases hc17_262 : ln = (1 : Int32)
    · refine own_back (fun t k => XS.icmpNo X0.here hx rfl (hb hby mk_d17) rfl (Jvm.Free.XT.ii_ne_f hc17_262) k) ?_
      show OwnGo p e below (s₁.setTop (mkF m 20 #[.val (.ref fa), .val (.int ln)] [])) _
      obtain ⟨T263, h263, X263, e263, E263, A263, D263, -, st263⟩ := newO X0 hx hZ hown (hw _ (List.mem_of_getElem? (i := 5) rfl)) (hw _ (List.mem_of_getElem? (i := 6) rfl)) (hw _ (List.mem_of_getElem? (i := 7) rfl)) e0 (g := (mkF m 20 #[.val (.ref fa), .val (.int ln)] [])) rfl (hb hby mk_d20) (Nat.le_of_ble_eq_true rfl) (Nat.le_of_ble_eq_true rfl)
      obtain ⟨b263, g263⟩ : ∃ z, z = h0.size := ⟨_, rfl⟩
      have ge264 : n0 ≤ b263 := Nat.le_trans Z0 (Nat.le_of_eq g263.symm)
      have sz265 : h0.size ≤ b263 := Nat.le_trans KP0.1 (Nat.le_of_eq g263.symm)
      rw [← g263] at A263 D263 st263
      have O266 := OL.ext E263
      have KP267 := KP0.ext E263
      have Zs268 := Nat.le_trans Z0 E263.1
      have CR269 := CR0.trans (CHr.ext E263 CR0.1)
      have hk270 := Nat.le_trans hk0 E263.1
      have f271 := VF.ext E263
      have F272 : Fld Z h263 b263 "java/lang/String" "value" "[B" .null := D263 (Or.inr (hw _ (List.mem_of_getElem? (i := 20) rfl))) (ty := (.array .byte)) (by decide)
      have F273 : Fld Z h263 b263 "java/lang/String" "coder" "B" (.int (0 : Int32)) := D263 (Or.inr (hw _ (List.mem_of_getElem? (i := 21) rfl))) (ty := .byte) (by decide)
      have sf274 := Safe.ext E263 CR0.1 (Safe.new (Nat.le_of_eq g263.symm))
      refine own_back st263 ?_
      show OwnGo p e below (T263.setTop (mkF m 23 #[.val (.ref fa), .val (.int ln)] [(.ref b263)])) _
      refine own_back (fun t k => XS.dup X263.here hx rfl (hb hby mk_d23) rfl rfl k) ?_
      show OwnGo p e below (T263.setTop (mkF m 24 #[.val (.ref fa), .val (.int ln)] [(.ref b263), (.ref b263)])) _
      refine own_back (fun t k => XS.iconst X263.here hx rfl (hb hby mk_d24) k) ?_
      show OwnGo p e below (T263.setTop (mkF m 25 #[.val (.ref fa), .val (.int ln)] [(.int (1 : Int32)), (.ref b263), (.ref b263)])) _
      obtain ⟨T275, h275, k275, X275, e275, E275, A275, st275⟩ := newP X263 hx hZ (hw _ (List.mem_of_getElem? (i := 0) rfl)) e263 (g := (mkF m 25 #[.val (.ref fa), .val (.int ln)] [(.int (1 : Int32)), (.ref b263), (.ref b263)])) rfl (hb hby mk_d25) rfl (by decide) (cap := 1) (by decide) (by decide) (Nat.le_of_ble_eq_true rfl) (Nat.le_of_ble_eq_true rfl)
      obtain ⟨b275, g275⟩ : ∃ z, z = h263.size := ⟨_, rfl⟩
      have ge276 : n0 ≤ b275 := Nat.le_trans Zs268 (Nat.le_of_eq g275.symm)
      have sz277 : h0.size ≤ b275 := Nat.le_trans KP267.1 (Nat.le_of_eq g275.symm)
      rw [← g275] at A275 st275
      have O278 := O266.ext E275
      have KP279 := KP267.ext E275
      have Zs280 := Nat.le_trans Zs268 E275.1
      have CR281 := CR269.trans (CHr.ext E275 CR269.1)
      have hk282 := Nat.le_trans hk270 E275.1
      have f283 := f271.ext E275
      have f284 := A263.ext E275
      have f285 := F272.ext E275
      have f286 := F273.ext E275
      have f287 := (Safe.ext E275 CR269.1 sf274)
      have V288 : Arv Z h275 b275 k275 .char (1 : Int32) [(.int (0 : Int32))] (.int (0 : Int32)) := (Arv.new A275 (by decide)).pad (pad_rep [] (.int (0 : Int32)) 1)
      have sf289 := Safe.ext E275 CR269.1 (Safe.new (Nat.le_of_eq g275.symm))
      refine own_back st275 ?_
      show OwnGo p e below (T275.setTop (mkF m 27 #[.val (.ref fa), .val (.int ln)] [(.ref b275), (.ref b263), (.ref b263)])) _
      refine own_back (fun t k => XS.dup X275.here hx rfl (hb hby mk_d27) rfl rfl k) ?_
      show OwnGo p e below (T275.setTop (mkF m 28 #[.val (.ref fa), .val (.int ln)] [(.ref b275), (.ref b275), (.ref b263), (.ref b263)])) _
      refine own_back (fun t k => XS.iconst X275.here hx rfl (hb hby mk_d28) k) ?_
      show OwnGo p e below (T275.setTop (mkF m 29 #[.val (.ref fa), .val (.int ln)] [(.int (0 : Int32)), (.ref b275), (.ref b275), (.ref b263), (.ref b263)])) _
      refine own_back (fun t k => XS.aloadN X275.here hx rfl (hb hby mk_d29) rfl rfl k) ?_
      show OwnGo p e below (T275.setTop (mkF m 30 #[.val (.ref fa), .val (.int ln)] [(.ref fa), (.int (0 : Int32)), (.ref b275), (.ref b275), (.ref b263), (.ref b263)])) _
      refine own_back (fun t k => XS.iconst X275.here hx rfl (hb hby mk_d30) k) ?_
      show OwnGo p e below (T275.setTop (mkF m 31 #[.val (.ref fa), .val (.int ln)] [(.int (0 : Int32)), (.ref fa), (.int (0 : Int32)), (.ref b275), (.ref b275), (.ref b263), (.ref b263)])) _
      obtain ⟨c290, A290, q290, S290, M290, H290, U290⟩ := id f283
      have ib291 : ¬ ((0 : Int32) < 0 ∨ c290.slots.size ≤ ((0 : Int32)).toNatClampNeg) := (inb_of S290 ⟨by decide, by decide⟩)
      refine own_back (fun t k => X275.caload hx (j := (0 : Int32)) (v := (.int f0)) (own_hat e275 A290.1) (State.isArrayOf_alike hZ.alike A290.2.1) A290.2.2 ib291 (H290.at ib291 rfl) (g := (mkF m 31 #[.val (.ref fa), .val (.int ln)] [(.int (0 : Int32)), (.ref fa), (.int (0 : Int32)), (.ref b275), (.ref b275), (.ref b263), (.ref b263)])) rfl rfl (hb hby mk_d31) t k) ?_
      show OwnGo p e below (T275.setTop (mkF m 32 #[.val (.ref fa), .val (.int ln)] [(.int f0), (.int (0 : Int32)), (.ref b275), (.ref b275), (.ref b263), (.ref b263)])) _
      obtain ⟨c292, A292, q292, S292, M292, H292, U292⟩ := id V288
      obtain ⟨T293, h293, X293, e293, W293, st293⟩ := stC X275 hx hZ e275 A292 (j := (0 : Int32)) (inb_of S292 ⟨by decide, by decide⟩) (g := (mkF m 32 #[.val (.ref fa), .val (.int ln)] [(.int f0), (.int (0 : Int32)), (.ref b275), (.ref b275), (.ref b263), (.ref b263)])) rfl rfl (hb hby mk_d32)
      have O294 := O278.wr W293 ge276
      have KP295 := KP279.wr W293 (Or.inr sz277)
      have Zs296 := Nat.le_trans Zs280 (Keep.of_wr W293).1
      have CR297 := CR281.trans (CHr.wr W293 sf289 CR281.1)
      have hk298 := Nat.le_trans hk282 (Keep.of_wr W293).1
      have f299 := f283.other W293 (Nat.ne_of_lt (Nat.lt_of_lt_of_le f271.lt (Nat.le_of_eq g275.symm)))
      have f300 := f284.wr W293
      have f301 := f285.other W293 (Or.inl (Nat.ne_of_lt (Nat.lt_of_lt_of_le A263.lt (Nat.le_of_eq g275.symm))))
      have f302 := f286.other W293 (Or.inl (Nat.ne_of_lt (Nat.lt_of_lt_of_le A263.lt (Nat.le_of_eq g275.symm))))
      have f303 := (Safe.wr W293 sf289 CR281.1 f287)
      have f304 := (Safe.wr W293 sf289 CR281.1 sf289)
      have V305 : Arv Z h293 b275 k275 .char (1 : Int32) [(.int (nar .char f0))] (.int (0 : Int32)) := Arv.set A292 q292 S292 M292 H292 U292 (fits_nar_char _) W293 0 rfl (Nat.le_of_ble_eq_true rfl)
      have N306 := Fr.snoc X293 N0 ge276
      refine own_back st293 ?_
      show OwnGo p e below (T293.setTop (mkF m 33 #[.val (.ref fa), .val (.int ln)] [(.ref b275), (.ref b263), (.ref b263)])) _
      obtain ⟨_, _, ⟨T307, L307, k307, n307⟩, -, X307, ⟨Lc307, hQ307, l307, y307, z307⟩, st307⟩ := X293.specialBack hx (y := (⟨"java/lang/String", "<init>", "([C)V"⟩ : MethodName)) rfl hown (mvT hZ (hw _ (List.mem_of_getElem? (i := 8) rfl))) (mvT hZ (hw _ (List.mem_of_getElem? (i := 9) rfl))) (mvT hZ (hw _ (List.mem_of_getElem? (i := 10) rfl))) (by decide) (StrChars.Road.backV (W := 1) hZ (own_wV hw) (kI := 4) (hw _ (List.mem_of_getElem? (i := 6) rfl)) (cs := ([(nar .char f0)] : List Int32)) (bs := ([(nar .char f0)] : List Int32).map (fun c => c.toInt8.toInt32)) (n := 1) ge264 Zs296 f300 f301 f302 V305 (SC.ext O294.2) hcz rfl rfl (by decide) (by decide) (own_allS (own_hpn H0) own_all0) rfl (by decide) (by decide)) (g := (mkF m 33 #[.val (.ref fa), .val (.int ln)] [(.ref b275), (.ref b263), (.ref b263)])) rfl (by rw [hml]; rfl) (Steps.refl _) (a := b263) (argsL := [(.ref b275)]) (rest := [(.ref b263)]) (lenOf mk_pd0 rfl) rfl (by show 2 * 0 + _ ≤ _; exact Nat.le_of_eq rfl) (hb hby mk_d33) (fun _ _ => ⟨rfl, e293, Nat.le_of_ble_eq_true rfl, Nat.le_of_ble_eq_true rfl⟩)
      dsimp only [Pt.U, Pt.locs, Pt.cells, Pt.slots] at X307 l307 y307 z307 st307 hQ307
      subst l307 y307 z307
      obtain ⟨rfl, N307q, K307, EX307, C307, t307, kb307, gt307, zt307, nt307, FV307, AV307⟩ := hQ307
      refine own_seq st307 ?_
      have N307 := Fr.app N306 N307q
      have O308 := O294.keep K307 (allS ge264 all0)
      have KP309 := KP295.trans K307 (allS (Or.inr sz265) all0)
      have Zs310 := Nat.le_trans Zs296 K307.1
      have CR311 := CR297.trans (CHr.keep K307 (sfS f303 sf0) CR297.1)
      have hk312 := Nat.le_trans hk298 K307.1
      have f313 := f299.keep K307 (ninS (Nat.ne_of_lt (Nat.lt_of_lt_of_le VF.lt (Nat.le_of_eq g263.symm))) nin0)
      have f314 := f300.keep K307
      have f315 := (Safe.keep K307 (sfS f303 sf0) CR297.1 f303)
      have f316 := (Safe.keep K307 (sfS f303 sf0) CR297.1 f304)
      have f317 := V305.keep K307 (ninS (Ne.symm (Nat.ne_of_lt (Nat.lt_of_lt_of_le A263.lt (Nat.le_of_eq g275.symm)))) nin0)
      show OwnGo p e below (T307.setTop (mkF m 36 #[.val (.ref fa), .val (.int ln)] [(.ref b263)])) _
      refine own_retAW X307 hx Bd.notSynchronized Bd.returns rfl rfl hS0 hk312 hZ hEL (hh ▸ CR311) (hb hby mk_d36) rfl (Nat.le_of_ble_eq_true rfl) (Nat.le_of_ble_eq_true rfl) ?_
      exact ⟨b263, rfl, N307, own_ext KP309, by rw [own_mk, if_neg hc1_224, if_pos hc17_262]; exact (⟨t307, kb307, EX307, C307, FV307, AV307, Nat.le_of_ble_eq_true rfl⟩ : OwnStr Z T307.heap b263 [((nar .char f0)).toInt8.toInt32])⟩
    · refine own_back (fun t k => XS.icmpYes X0.here hx rfl (pc0 := 17) (pc' := 37) rfl (hb hby mk_d17) rfl (Jvm.Free.XT.ii_ne_t hc17_262) (by decide) (by decide) k) ?_
      show OwnGo p e below (s₁.setTop (mkF m 37 #[.val (.ref fa), .val (.int ln)] [])) _
      refine own_back (fun t k => XS.iloadN X0.here hx rfl (hb hby mk_d37) rfl k) ?_
      show OwnGo p e below (s₁.setTop (mkF m 38 #[.val (.ref fa), .val (.int ln)] [(.int ln)])) _
      refine own_back (fun t k => XS.iconst X0.here hx rfl (hb hby mk_d38) k) ?_
      show OwnGo p e below (s₁.setTop (mkF m 39 #[.val (.ref fa), .val (.int ln)] [(.int (2 : Int32)), (.int ln)])) _
      by_cases hc39_318 : ln = (2 : Int32)
      · refine own_back (fun t k => XS.icmpNo X0.here hx rfl (hb hby mk_d39) rfl (Jvm.Free.XT.ii_ne_f hc39_318) k) ?_
        show OwnGo p e below (s₁.setTop (mkF m 42 #[.val (.ref fa), .val (.int ln)] [])) _
        obtain ⟨T319, h319, X319, e319, E319, A319, D319, -, st319⟩ := newO X0 hx hZ hown (hw _ (List.mem_of_getElem? (i := 5) rfl)) (hw _ (List.mem_of_getElem? (i := 6) rfl)) (hw _ (List.mem_of_getElem? (i := 7) rfl)) e0 (g := (mkF m 42 #[.val (.ref fa), .val (.int ln)] [])) rfl (hb hby mk_d42) (Nat.le_of_ble_eq_true rfl) (Nat.le_of_ble_eq_true rfl)
        obtain ⟨b319, g319⟩ : ∃ z, z = h0.size := ⟨_, rfl⟩
        have ge320 : n0 ≤ b319 := Nat.le_trans Z0 (Nat.le_of_eq g319.symm)
        have sz321 : h0.size ≤ b319 := Nat.le_trans KP0.1 (Nat.le_of_eq g319.symm)
        rw [← g319] at A319 D319 st319
        have O322 := OL.ext E319
        have KP323 := KP0.ext E319
        have Zs324 := Nat.le_trans Z0 E319.1
        have CR325 := CR0.trans (CHr.ext E319 CR0.1)
        have hk326 := Nat.le_trans hk0 E319.1
        have f327 := VF.ext E319
        have F328 : Fld Z h319 b319 "java/lang/String" "value" "[B" .null := D319 (Or.inr (hw _ (List.mem_of_getElem? (i := 20) rfl))) (ty := (.array .byte)) (by decide)
        have F329 : Fld Z h319 b319 "java/lang/String" "coder" "B" (.int (0 : Int32)) := D319 (Or.inr (hw _ (List.mem_of_getElem? (i := 21) rfl))) (ty := .byte) (by decide)
        have sf330 := Safe.ext E319 CR0.1 (Safe.new (Nat.le_of_eq g319.symm))
        refine own_back st319 ?_
        show OwnGo p e below (T319.setTop (mkF m 45 #[.val (.ref fa), .val (.int ln)] [(.ref b319)])) _
        refine own_back (fun t k => XS.dup X319.here hx rfl (hb hby mk_d45) rfl rfl k) ?_
        show OwnGo p e below (T319.setTop (mkF m 46 #[.val (.ref fa), .val (.int ln)] [(.ref b319), (.ref b319)])) _
        refine own_back (fun t k => XS.iconst X319.here hx rfl (hb hby mk_d46) k) ?_
        show OwnGo p e below (T319.setTop (mkF m 47 #[.val (.ref fa), .val (.int ln)] [(.int (2 : Int32)), (.ref b319), (.ref b319)])) _
        obtain ⟨T331, h331, k331, X331, e331, E331, A331, st331⟩ := newP X319 hx hZ (hw _ (List.mem_of_getElem? (i := 0) rfl)) e319 (g := (mkF m 47 #[.val (.ref fa), .val (.int ln)] [(.int (2 : Int32)), (.ref b319), (.ref b319)])) rfl (hb hby mk_d47) rfl (by decide) (cap := 2) (by decide) (by decide) (Nat.le_of_ble_eq_true rfl) (Nat.le_of_ble_eq_true rfl)
        obtain ⟨b331, g331⟩ : ∃ z, z = h319.size := ⟨_, rfl⟩
        have ge332 : n0 ≤ b331 := Nat.le_trans Zs324 (Nat.le_of_eq g331.symm)
        have sz333 : h0.size ≤ b331 := Nat.le_trans KP323.1 (Nat.le_of_eq g331.symm)
        rw [← g331] at A331 st331
        have O334 := O322.ext E331
        have KP335 := KP323.ext E331
        have Zs336 := Nat.le_trans Zs324 E331.1
        have CR337 := CR325.trans (CHr.ext E331 CR325.1)
        have hk338 := Nat.le_trans hk326 E331.1
        have f339 := f327.ext E331
        have f340 := A319.ext E331
        have f341 := F328.ext E331
        have f342 := F329.ext E331
        have f343 := (Safe.ext E331 CR325.1 sf330)
        have V344 : Arv Z h331 b331 k331 .char (2 : Int32) [(.int (0 : Int32)), (.int (0 : Int32))] (.int (0 : Int32)) := (Arv.new A331 (by decide)).pad (pad_rep [] (.int (0 : Int32)) 2)
        have sf345 := Safe.ext E331 CR325.1 (Safe.new (Nat.le_of_eq g331.symm))
        refine own_back st331 ?_
        show OwnGo p e below (T331.setTop (mkF m 49 #[.val (.ref fa), .val (.int ln)] [(.ref b331), (.ref b319), (.ref b319)])) _
        refine own_back (fun t k => XS.dup X331.here hx rfl (hb hby mk_d49) rfl rfl k) ?_
        show OwnGo p e below (T331.setTop (mkF m 50 #[.val (.ref fa), .val (.int ln)] [(.ref b331), (.ref b331), (.ref b319), (.ref b319)])) _
        refine own_back (fun t k => XS.iconst X331.here hx rfl (hb hby mk_d50) k) ?_
        show OwnGo p e below (T331.setTop (mkF m 51 #[.val (.ref fa), .val (.int ln)] [(.int (0 : Int32)), (.ref b331), (.ref b331), (.ref b319), (.ref b319)])) _
        refine own_back (fun t k => XS.aloadN X331.here hx rfl (hb hby mk_d51) rfl rfl k) ?_
        show OwnGo p e below (T331.setTop (mkF m 52 #[.val (.ref fa), .val (.int ln)] [(.ref fa), (.int (0 : Int32)), (.ref b331), (.ref b331), (.ref b319), (.ref b319)])) _
        refine own_back (fun t k => XS.iconst X331.here hx rfl (hb hby mk_d52) k) ?_
        show OwnGo p e below (T331.setTop (mkF m 53 #[.val (.ref fa), .val (.int ln)] [(.int (0 : Int32)), (.ref fa), (.int (0 : Int32)), (.ref b331), (.ref b331), (.ref b319), (.ref b319)])) _
        obtain ⟨c346, A346, q346, S346, M346, H346, U346⟩ := id f339
        have ib347 : ¬ ((0 : Int32) < 0 ∨ c346.slots.size ≤ ((0 : Int32)).toNatClampNeg) := (inb_of S346 ⟨by decide, by decide⟩)
        refine own_back (fun t k => X331.caload hx (j := (0 : Int32)) (v := (.int f0)) (own_hat e331 A346.1) (State.isArrayOf_alike hZ.alike A346.2.1) A346.2.2 ib347 (H346.at ib347 rfl) (g := (mkF m 53 #[.val (.ref fa), .val (.int ln)] [(.int (0 : Int32)), (.ref fa), (.int (0 : Int32)), (.ref b331), (.ref b331), (.ref b319), (.ref b319)])) rfl rfl (hb hby mk_d53) t k) ?_
        show OwnGo p e below (T331.setTop (mkF m 54 #[.val (.ref fa), .val (.int ln)] [(.int f0), (.int (0 : Int32)), (.ref b331), (.ref b331), (.ref b319), (.ref b319)])) _
        obtain ⟨c348, A348, q348, S348, M348, H348, U348⟩ := id V344
        obtain ⟨T349, h349, X349, e349, W349, st349⟩ := stC X331 hx hZ e331 A348 (j := (0 : Int32)) (inb_of S348 ⟨by decide, by decide⟩) (g := (mkF m 54 #[.val (.ref fa), .val (.int ln)] [(.int f0), (.int (0 : Int32)), (.ref b331), (.ref b331), (.ref b319), (.ref b319)])) rfl rfl (hb hby mk_d54)
        have O350 := O334.wr W349 ge332
        have KP351 := KP335.wr W349 (Or.inr sz333)
        have Zs352 := Nat.le_trans Zs336 (Keep.of_wr W349).1
        have CR353 := CR337.trans (CHr.wr W349 sf345 CR337.1)
        have hk354 := Nat.le_trans hk338 (Keep.of_wr W349).1
        have f355 := f339.other W349 (Nat.ne_of_lt (Nat.lt_of_lt_of_le f327.lt (Nat.le_of_eq g331.symm)))
        have f356 := f340.wr W349
        have f357 := f341.other W349 (Or.inl (Nat.ne_of_lt (Nat.lt_of_lt_of_le A319.lt (Nat.le_of_eq g331.symm))))
        have f358 := f342.other W349 (Or.inl (Nat.ne_of_lt (Nat.lt_of_lt_of_le A319.lt (Nat.le_of_eq g331.symm))))
        have f359 := (Safe.wr W349 sf345 CR337.1 f343)
        have f360 := (Safe.wr W349 sf345 CR337.1 sf345)
        have V361 : Arv Z h349 b331 k331 .char (2 : Int32) [(.int (nar .char f0)), (.int (0 : Int32))] (.int (0 : Int32)) := Arv.set A348 q348 S348 M348 H348 U348 (fits_nar_char _) W349 0 rfl (Nat.le_of_ble_eq_true rfl)
        have N362 := Fr.snoc X349 N0 ge332
        refine own_back st349 ?_
        show OwnGo p e below (T349.setTop (mkF m 55 #[.val (.ref fa), .val (.int ln)] [(.ref b331), (.ref b319), (.ref b319)])) _
        refine own_back (fun t k => XS.dup X349.here hx rfl (hb hby mk_d55) rfl rfl k) ?_
        show OwnGo p e below (T349.setTop (mkF m 56 #[.val (.ref fa), .val (.int ln)] [(.ref b331), (.ref b331), (.ref b319), (.ref b319)])) _
        refine own_back (fun t k => XS.iconst X349.here hx rfl (hb hby mk_d56) k) ?_
        show OwnGo p e below (T349.setTop (mkF m 57 #[.val (.ref fa), .val (.int ln)] [(.int (1 : Int32)), (.ref b331), (.ref b331), (.ref b319), (.ref b319)])) _
        refine own_back (fun t k => XS.aloadN X349.here hx rfl (hb hby mk_d57) rfl rfl k) ?_
        show OwnGo p e below (T349.setTop (mkF m 58 #[.val (.ref fa), .val (.int ln)] [(.ref fa), (.int (1 : Int32)), (.ref b331), (.ref b331), (.ref b319), (.ref b319)])) _
        refine own_back (fun t k => XS.iconst X349.here hx rfl (hb hby mk_d58) k) ?_
        show OwnGo p e below (T349.setTop (mkF m 59 #[.val (.ref fa), .val (.int ln)] [(.int (1 : Int32)), (.ref fa), (.int (1 : Int32)), (.ref b331), (.ref b331), (.ref b319), (.ref b319)])) _
        obtain ⟨c363, A363, q363, S363, M363, H363, U363⟩ := id f355
        have ib364 : ¬ ((1 : Int32) < 0 ∨ c363.slots.size ≤ ((1 : Int32)).toNatClampNeg) := (inb_of S363 ⟨by decide, by decide⟩)
        refine own_back (fun t k => X349.caload hx (j := (1 : Int32)) (v := (.int f1)) (own_hat e349 A363.1) (State.isArrayOf_alike hZ.alike A363.2.1) A363.2.2 ib364 (H363.at ib364 rfl) (g := (mkF m 59 #[.val (.ref fa), .val (.int ln)] [(.int (1 : Int32)), (.ref fa), (.int (1 : Int32)), (.ref b331), (.ref b331), (.ref b319), (.ref b319)])) rfl rfl (hb hby mk_d59) t k) ?_
        show OwnGo p e below (T349.setTop (mkF m 60 #[.val (.ref fa), .val (.int ln)] [(.int f1), (.int (1 : Int32)), (.ref b331), (.ref b331), (.ref b319), (.ref b319)])) _
        obtain ⟨c365, A365, q365, S365, M365, H365, U365⟩ := id V361
        obtain ⟨T366, h366, X366, e366, W366, st366⟩ := stC X349 hx hZ e349 A365 (j := (1 : Int32)) (inb_of S365 ⟨by decide, by decide⟩) (g := (mkF m 60 #[.val (.ref fa), .val (.int ln)] [(.int f1), (.int (1 : Int32)), (.ref b331), (.ref b331), (.ref b319), (.ref b319)])) rfl rfl (hb hby mk_d60)
        have O367 := O350.wr W366 ge332
        have KP368 := KP351.wr W366 (Or.inr sz333)
        have Zs369 := Nat.le_trans Zs352 (Keep.of_wr W366).1
        have CR370 := CR353.trans (CHr.wr W366 f360 CR353.1)
        have hk371 := Nat.le_trans hk354 (Keep.of_wr W366).1
        have f372 := f355.other W366 (Nat.ne_of_lt (Nat.lt_of_lt_of_le f327.lt (Nat.le_of_eq g331.symm)))
        have f373 := f356.wr W366
        have f374 := f357.other W366 (Or.inl (Nat.ne_of_lt (Nat.lt_of_lt_of_le A319.lt (Nat.le_of_eq g331.symm))))
        have f375 := f358.other W366 (Or.inl (Nat.ne_of_lt (Nat.lt_of_lt_of_le A319.lt (Nat.le_of_eq g331.symm))))
        have f376 := (Safe.wr W366 f360 CR353.1 f359)
        have f377 := (Safe.wr W366 f360 CR353.1 f360)
        have V378 : Arv Z h366 b331 k331 .char (2 : Int32) [(.int (nar .char f0)), (.int (nar .char f1))] (.int (0 : Int32)) := Arv.set A365 q365 S365 M365 H365 U365 (fits_nar_char _) W366 1 rfl (Nat.le_of_ble_eq_true rfl)
        have N379 := Fr.snoc X366 N362 ge332
        refine own_back st366 ?_
        show OwnGo p e below (T366.setTop (mkF m 61 #[.val (.ref fa), .val (.int ln)] [(.ref b331), (.ref b319), (.ref b319)])) _
        obtain ⟨_, _, ⟨T380, L380, k380, n380⟩, -, X380, ⟨Lc380, hQ380, l380, y380, z380⟩, st380⟩ := X366.specialBack hx (y := (⟨"java/lang/String", "<init>", "([C)V"⟩ : MethodName)) rfl hown (mvT hZ (hw _ (List.mem_of_getElem? (i := 8) rfl))) (mvT hZ (hw _ (List.mem_of_getElem? (i := 9) rfl))) (mvT hZ (hw _ (List.mem_of_getElem? (i := 10) rfl))) (by decide) (StrChars.Road.backV (W := 1) hZ (own_wV hw) (kI := 4) (hw _ (List.mem_of_getElem? (i := 6) rfl)) (cs := ([(nar .char f0), (nar .char f1)] : List Int32)) (bs := ([(nar .char f0), (nar .char f1)] : List Int32).map (fun c => c.toInt8.toInt32)) (n := 2) ge320 Zs369 f373 f374 f375 V378 (SC.ext O367.2) hcz rfl rfl (by decide) (by decide) (own_allS (own_hpn H0) (own_allS (own_hpn H1) own_all0)) rfl (by decide) (by decide)) (g := (mkF m 61 #[.val (.ref fa), .val (.int ln)] [(.ref b331), (.ref b319), (.ref b319)])) rfl (by rw [hml]; rfl) (Steps.refl _) (a := b319) (argsL := [(.ref b331)]) (rest := [(.ref b319)]) (lenOf mk_pd0 rfl) rfl (by show 2 * 0 + _ ≤ _; exact Nat.le_of_eq rfl) (hb hby mk_d61) (fun _ _ => ⟨rfl, e366, Nat.le_of_ble_eq_true rfl, Nat.le_of_ble_eq_true rfl⟩)
        dsimp only [Pt.U, Pt.locs, Pt.cells, Pt.slots] at X380 l380 y380 z380 st380 hQ380
        subst l380 y380 z380
        obtain ⟨rfl, N380q, K380, EX380, C380, t380, kb380, gt380, zt380, nt380, FV380, AV380⟩ := hQ380
        refine own_seq st380 ?_
        have N380 := Fr.app N379 N380q
        have O381 := O367.keep K380 (allS ge320 all0)
        have KP382 := KP368.trans K380 (allS (Or.inr sz321) all0)
        have Zs383 := Nat.le_trans Zs369 K380.1
        have CR384 := CR370.trans (CHr.keep K380 (sfS f376 sf0) CR370.1)
        have hk385 := Nat.le_trans hk371 K380.1
        have f386 := f372.keep K380 (ninS (Nat.ne_of_lt (Nat.lt_of_lt_of_le VF.lt (Nat.le_of_eq g319.symm))) nin0)
        have f387 := f373.keep K380
        have f388 := (Safe.keep K380 (sfS f376 sf0) CR370.1 f376)
        have f389 := (Safe.keep K380 (sfS f376 sf0) CR370.1 f377)
        have f390 := V378.keep K380 (ninS (Ne.symm (Nat.ne_of_lt (Nat.lt_of_lt_of_le A319.lt (Nat.le_of_eq g331.symm)))) nin0)
        show OwnGo p e below (T380.setTop (mkF m 64 #[.val (.ref fa), .val (.int ln)] [(.ref b319)])) _
        refine own_retAW X380 hx Bd.notSynchronized Bd.returns rfl rfl hS0 hk385 hZ hEL (hh ▸ CR384) (hb hby mk_d64) rfl (Nat.le_of_ble_eq_true rfl) (Nat.le_of_ble_eq_true rfl) ?_
        exact ⟨b319, rfl, N380, own_ext KP382, by rw [own_mk, if_neg hc1_224, if_neg hc17_262, if_pos hc39_318]; exact (⟨t380, kb380, EX380, C380, FV380, AV380, Nat.le_of_ble_eq_true rfl⟩ : OwnStr Z T380.heap b319 [((nar .char f0)).toInt8.toInt32, ((nar .char f1)).toInt8.toInt32])⟩
      · refine own_back (fun t k => XS.icmpYes X0.here hx rfl (pc0 := 39) (pc' := 65) rfl (hb hby mk_d39) rfl (Jvm.Free.XT.ii_ne_t hc39_318) (by decide) (by decide) k) ?_
        show OwnGo p e below (s₁.setTop (mkF m 65 #[.val (.ref fa), .val (.int ln)] [])) _
        refine own_back (fun t k => XS.iloadN X0.here hx rfl (hb hby mk_d65) rfl k) ?_
        show OwnGo p e below (s₁.setTop (mkF m 66 #[.val (.ref fa), .val (.int ln)] [(.int ln)])) _
        refine own_back (fun t k => XS.iconst X0.here hx rfl (hb hby mk_d66) k) ?_
        show OwnGo p e below (s₁.setTop (mkF m 67 #[.val (.ref fa), .val (.int ln)] [(.int (3 : Int32)), (.int ln)])) _
        by_cases hc67_391 : ln = (3 : Int32)
        · refine own_back (fun t k => XS.icmpNo X0.here hx rfl (hb hby mk_d67) rfl (Jvm.Free.XT.ii_ne_f hc67_391) k) ?_
          show OwnGo p e below (s₁.setTop (mkF m 70 #[.val (.ref fa), .val (.int ln)] [])) _
          obtain ⟨T392, h392, X392, e392, E392, A392, D392, -, st392⟩ := newO X0 hx hZ hown (hw _ (List.mem_of_getElem? (i := 5) rfl)) (hw _ (List.mem_of_getElem? (i := 6) rfl)) (hw _ (List.mem_of_getElem? (i := 7) rfl)) e0 (g := (mkF m 70 #[.val (.ref fa), .val (.int ln)] [])) rfl (hb hby mk_d70) (Nat.le_of_ble_eq_true rfl) (Nat.le_of_ble_eq_true rfl)
          obtain ⟨b392, g392⟩ : ∃ z, z = h0.size := ⟨_, rfl⟩
          have ge393 : n0 ≤ b392 := Nat.le_trans Z0 (Nat.le_of_eq g392.symm)
          have sz394 : h0.size ≤ b392 := Nat.le_trans KP0.1 (Nat.le_of_eq g392.symm)
          rw [← g392] at A392 D392 st392
          have O395 := OL.ext E392
          have KP396 := KP0.ext E392
          have Zs397 := Nat.le_trans Z0 E392.1
          have CR398 := CR0.trans (CHr.ext E392 CR0.1)
          have hk399 := Nat.le_trans hk0 E392.1
          have f400 := VF.ext E392
          have F401 : Fld Z h392 b392 "java/lang/String" "value" "[B" .null := D392 (Or.inr (hw _ (List.mem_of_getElem? (i := 20) rfl))) (ty := (.array .byte)) (by decide)
          have F402 : Fld Z h392 b392 "java/lang/String" "coder" "B" (.int (0 : Int32)) := D392 (Or.inr (hw _ (List.mem_of_getElem? (i := 21) rfl))) (ty := .byte) (by decide)
          have sf403 := Safe.ext E392 CR0.1 (Safe.new (Nat.le_of_eq g392.symm))
          refine own_back st392 ?_
          show OwnGo p e below (T392.setTop (mkF m 73 #[.val (.ref fa), .val (.int ln)] [(.ref b392)])) _
          refine own_back (fun t k => XS.dup X392.here hx rfl (hb hby mk_d73) rfl rfl k) ?_
          show OwnGo p e below (T392.setTop (mkF m 74 #[.val (.ref fa), .val (.int ln)] [(.ref b392), (.ref b392)])) _
          refine own_back (fun t k => XS.iconst X392.here hx rfl (hb hby mk_d74) k) ?_
          show OwnGo p e below (T392.setTop (mkF m 75 #[.val (.ref fa), .val (.int ln)] [(.int (3 : Int32)), (.ref b392), (.ref b392)])) _
          obtain ⟨T404, h404, k404, X404, e404, E404, A404, st404⟩ := newP X392 hx hZ (hw _ (List.mem_of_getElem? (i := 0) rfl)) e392 (g := (mkF m 75 #[.val (.ref fa), .val (.int ln)] [(.int (3 : Int32)), (.ref b392), (.ref b392)])) rfl (hb hby mk_d75) rfl (by decide) (cap := 3) (by decide) (by decide) (Nat.le_of_ble_eq_true rfl) (Nat.le_of_ble_eq_true rfl)
          obtain ⟨b404, g404⟩ : ∃ z, z = h392.size := ⟨_, rfl⟩
          have ge405 : n0 ≤ b404 := Nat.le_trans Zs397 (Nat.le_of_eq g404.symm)
          have sz406 : h0.size ≤ b404 := Nat.le_trans KP396.1 (Nat.le_of_eq g404.symm)
          rw [← g404] at A404 st404
          have O407 := O395.ext E404
          have KP408 := KP396.ext E404
          have Zs409 := Nat.le_trans Zs397 E404.1
          have CR410 := CR398.trans (CHr.ext E404 CR398.1)
          have hk411 := Nat.le_trans hk399 E404.1
          have f412 := f400.ext E404
          have f413 := A392.ext E404
          have f414 := F401.ext E404
          have f415 := F402.ext E404
          have f416 := (Safe.ext E404 CR398.1 sf403)
          have V417 : Arv Z h404 b404 k404 .char (3 : Int32) [(.int (0 : Int32)), (.int (0 : Int32)), (.int (0 : Int32))] (.int (0 : Int32)) := (Arv.new A404 (by decide)).pad (pad_rep [] (.int (0 : Int32)) 3)
          have sf418 := Safe.ext E404 CR398.1 (Safe.new (Nat.le_of_eq g404.symm))
          refine own_back st404 ?_
          show OwnGo p e below (T404.setTop (mkF m 77 #[.val (.ref fa), .val (.int ln)] [(.ref b404), (.ref b392), (.ref b392)])) _
          refine own_back (fun t k => XS.dup X404.here hx rfl (hb hby mk_d77) rfl rfl k) ?_
          show OwnGo p e below (T404.setTop (mkF m 78 #[.val (.ref fa), .val (.int ln)] [(.ref b404), (.ref b404), (.ref b392), (.ref b392)])) _
          refine own_back (fun t k => XS.iconst X404.here hx rfl (hb hby mk_d78) k) ?_
          show OwnGo p e below (T404.setTop (mkF m 79 #[.val (.ref fa), .val (.int ln)] [(.int (0 : Int32)), (.ref b404), (.ref b404), (.ref b392), (.ref b392)])) _
          refine own_back (fun t k => XS.aloadN X404.here hx rfl (hb hby mk_d79) rfl rfl k) ?_
          show OwnGo p e below (T404.setTop (mkF m 80 #[.val (.ref fa), .val (.int ln)] [(.ref fa), (.int (0 : Int32)), (.ref b404), (.ref b404), (.ref b392), (.ref b392)])) _
          refine own_back (fun t k => XS.iconst X404.here hx rfl (hb hby mk_d80) k) ?_
          show OwnGo p e below (T404.setTop (mkF m 81 #[.val (.ref fa), .val (.int ln)] [(.int (0 : Int32)), (.ref fa), (.int (0 : Int32)), (.ref b404), (.ref b404), (.ref b392), (.ref b392)])) _
          obtain ⟨c419, A419, q419, S419, M419, H419, U419⟩ := id f412
          have ib420 : ¬ ((0 : Int32) < 0 ∨ c419.slots.size ≤ ((0 : Int32)).toNatClampNeg) := (inb_of S419 ⟨by decide, by decide⟩)
          refine own_back (fun t k => X404.caload hx (j := (0 : Int32)) (v := (.int f0)) (own_hat e404 A419.1) (State.isArrayOf_alike hZ.alike A419.2.1) A419.2.2 ib420 (H419.at ib420 rfl) (g := (mkF m 81 #[.val (.ref fa), .val (.int ln)] [(.int (0 : Int32)), (.ref fa), (.int (0 : Int32)), (.ref b404), (.ref b404), (.ref b392), (.ref b392)])) rfl rfl (hb hby mk_d81) t k) ?_
          show OwnGo p e below (T404.setTop (mkF m 82 #[.val (.ref fa), .val (.int ln)] [(.int f0), (.int (0 : Int32)), (.ref b404), (.ref b404), (.ref b392), (.ref b392)])) _
          obtain ⟨c421, A421, q421, S421, M421, H421, U421⟩ := id V417
          obtain ⟨T422, h422, X422, e422, W422, st422⟩ := stC X404 hx hZ e404 A421 (j := (0 : Int32)) (inb_of S421 ⟨by decide, by decide⟩) (g := (mkF m 82 #[.val (.ref fa), .val (.int ln)] [(.int f0), (.int (0 : Int32)), (.ref b404), (.ref b404), (.ref b392), (.ref b392)])) rfl rfl (hb hby mk_d82)
          have O423 := O407.wr W422 ge405
          have KP424 := KP408.wr W422 (Or.inr sz406)
          have Zs425 := Nat.le_trans Zs409 (Keep.of_wr W422).1
          have CR426 := CR410.trans (CHr.wr W422 sf418 CR410.1)
          have hk427 := Nat.le_trans hk411 (Keep.of_wr W422).1
          have f428 := f412.other W422 (Nat.ne_of_lt (Nat.lt_of_lt_of_le f400.lt (Nat.le_of_eq g404.symm)))
          have f429 := f413.wr W422
          have f430 := f414.other W422 (Or.inl (Nat.ne_of_lt (Nat.lt_of_lt_of_le A392.lt (Nat.le_of_eq g404.symm))))
          have f431 := f415.other W422 (Or.inl (Nat.ne_of_lt (Nat.lt_of_lt_of_le A392.lt (Nat.le_of_eq g404.symm))))
          have f432 := (Safe.wr W422 sf418 CR410.1 f416)
          have f433 := (Safe.wr W422 sf418 CR410.1 sf418)
          have V434 : Arv Z h422 b404 k404 .char (3 : Int32) [(.int (nar .char f0)), (.int (0 : Int32)), (.int (0 : Int32))] (.int (0 : Int32)) := Arv.set A421 q421 S421 M421 H421 U421 (fits_nar_char _) W422 0 rfl (Nat.le_of_ble_eq_true rfl)
          have N435 := Fr.snoc X422 N0 ge405
          refine own_back st422 ?_
          show OwnGo p e below (T422.setTop (mkF m 83 #[.val (.ref fa), .val (.int ln)] [(.ref b404), (.ref b392), (.ref b392)])) _
          refine own_back (fun t k => XS.dup X422.here hx rfl (hb hby mk_d83) rfl rfl k) ?_
          show OwnGo p e below (T422.setTop (mkF m 84 #[.val (.ref fa), .val (.int ln)] [(.ref b404), (.ref b404), (.ref b392), (.ref b392)])) _
          refine own_back (fun t k => XS.iconst X422.here hx rfl (hb hby mk_d84) k) ?_
          show OwnGo p e below (T422.setTop (mkF m 85 #[.val (.ref fa), .val (.int ln)] [(.int (1 : Int32)), (.ref b404), (.ref b404), (.ref b392), (.ref b392)])) _
          refine own_back (fun t k => XS.aloadN X422.here hx rfl (hb hby mk_d85) rfl rfl k) ?_
          show OwnGo p e below (T422.setTop (mkF m 86 #[.val (.ref fa), .val (.int ln)] [(.ref fa), (.int (1 : Int32)), (.ref b404), (.ref b404), (.ref b392), (.ref b392)])) _
          refine own_back (fun t k => XS.iconst X422.here hx rfl (hb hby mk_d86) k) ?_
          show OwnGo p e below (T422.setTop (mkF m 87 #[.val (.ref fa), .val (.int ln)] [(.int (1 : Int32)), (.ref fa), (.int (1 : Int32)), (.ref b404), (.ref b404), (.ref b392), (.ref b392)])) _
          obtain ⟨c436, A436, q436, S436, M436, H436, U436⟩ := id f428
          have ib437 : ¬ ((1 : Int32) < 0 ∨ c436.slots.size ≤ ((1 : Int32)).toNatClampNeg) := (inb_of S436 ⟨by decide, by decide⟩)
          refine own_back (fun t k => X422.caload hx (j := (1 : Int32)) (v := (.int f1)) (own_hat e422 A436.1) (State.isArrayOf_alike hZ.alike A436.2.1) A436.2.2 ib437 (H436.at ib437 rfl) (g := (mkF m 87 #[.val (.ref fa), .val (.int ln)] [(.int (1 : Int32)), (.ref fa), (.int (1 : Int32)), (.ref b404), (.ref b404), (.ref b392), (.ref b392)])) rfl rfl (hb hby mk_d87) t k) ?_
          show OwnGo p e below (T422.setTop (mkF m 88 #[.val (.ref fa), .val (.int ln)] [(.int f1), (.int (1 : Int32)), (.ref b404), (.ref b404), (.ref b392), (.ref b392)])) _
          obtain ⟨c438, A438, q438, S438, M438, H438, U438⟩ := id V434
          obtain ⟨T439, h439, X439, e439, W439, st439⟩ := stC X422 hx hZ e422 A438 (j := (1 : Int32)) (inb_of S438 ⟨by decide, by decide⟩) (g := (mkF m 88 #[.val (.ref fa), .val (.int ln)] [(.int f1), (.int (1 : Int32)), (.ref b404), (.ref b404), (.ref b392), (.ref b392)])) rfl rfl (hb hby mk_d88)
          have O440 := O423.wr W439 ge405
          have KP441 := KP424.wr W439 (Or.inr sz406)
          have Zs442 := Nat.le_trans Zs425 (Keep.of_wr W439).1
          have CR443 := CR426.trans (CHr.wr W439 f433 CR426.1)
          have hk444 := Nat.le_trans hk427 (Keep.of_wr W439).1
          have f445 := f428.other W439 (Nat.ne_of_lt (Nat.lt_of_lt_of_le f400.lt (Nat.le_of_eq g404.symm)))
          have f446 := f429.wr W439
          have f447 := f430.other W439 (Or.inl (Nat.ne_of_lt (Nat.lt_of_lt_of_le A392.lt (Nat.le_of_eq g404.symm))))
          have f448 := f431.other W439 (Or.inl (Nat.ne_of_lt (Nat.lt_of_lt_of_le A392.lt (Nat.le_of_eq g404.symm))))
          have f449 := (Safe.wr W439 f433 CR426.1 f432)
          have f450 := (Safe.wr W439 f433 CR426.1 f433)
          have V451 : Arv Z h439 b404 k404 .char (3 : Int32) [(.int (nar .char f0)), (.int (nar .char f1)), (.int (0 : Int32))] (.int (0 : Int32)) := Arv.set A438 q438 S438 M438 H438 U438 (fits_nar_char _) W439 1 rfl (Nat.le_of_ble_eq_true rfl)
          have N452 := Fr.snoc X439 N435 ge405
          refine own_back st439 ?_
          show OwnGo p e below (T439.setTop (mkF m 89 #[.val (.ref fa), .val (.int ln)] [(.ref b404), (.ref b392), (.ref b392)])) _
          refine own_back (fun t k => XS.dup X439.here hx rfl (hb hby mk_d89) rfl rfl k) ?_
          show OwnGo p e below (T439.setTop (mkF m 90 #[.val (.ref fa), .val (.int ln)] [(.ref b404), (.ref b404), (.ref b392), (.ref b392)])) _
          refine own_back (fun t k => XS.iconst X439.here hx rfl (hb hby mk_d90) k) ?_
          show OwnGo p e below (T439.setTop (mkF m 91 #[.val (.ref fa), .val (.int ln)] [(.int (2 : Int32)), (.ref b404), (.ref b404), (.ref b392), (.ref b392)])) _
          refine own_back (fun t k => XS.aloadN X439.here hx rfl (hb hby mk_d91) rfl rfl k) ?_
          show OwnGo p e below (T439.setTop (mkF m 92 #[.val (.ref fa), .val (.int ln)] [(.ref fa), (.int (2 : Int32)), (.ref b404), (.ref b404), (.ref b392), (.ref b392)])) _
          refine own_back (fun t k => XS.iconst X439.here hx rfl (hb hby mk_d92) k) ?_
          show OwnGo p e below (T439.setTop (mkF m 93 #[.val (.ref fa), .val (.int ln)] [(.int (2 : Int32)), (.ref fa), (.int (2 : Int32)), (.ref b404), (.ref b404), (.ref b392), (.ref b392)])) _
          obtain ⟨c453, A453, q453, S453, M453, H453, U453⟩ := id f445
          have ib454 : ¬ ((2 : Int32) < 0 ∨ c453.slots.size ≤ ((2 : Int32)).toNatClampNeg) := (inb_of S453 ⟨by decide, by decide⟩)
          refine own_back (fun t k => X439.caload hx (j := (2 : Int32)) (v := (.int f2)) (own_hat e439 A453.1) (State.isArrayOf_alike hZ.alike A453.2.1) A453.2.2 ib454 (H453.at ib454 rfl) (g := (mkF m 93 #[.val (.ref fa), .val (.int ln)] [(.int (2 : Int32)), (.ref fa), (.int (2 : Int32)), (.ref b404), (.ref b404), (.ref b392), (.ref b392)])) rfl rfl (hb hby mk_d93) t k) ?_
          show OwnGo p e below (T439.setTop (mkF m 94 #[.val (.ref fa), .val (.int ln)] [(.int f2), (.int (2 : Int32)), (.ref b404), (.ref b404), (.ref b392), (.ref b392)])) _
          obtain ⟨c455, A455, q455, S455, M455, H455, U455⟩ := id V451
          obtain ⟨T456, h456, X456, e456, W456, st456⟩ := stC X439 hx hZ e439 A455 (j := (2 : Int32)) (inb_of S455 ⟨by decide, by decide⟩) (g := (mkF m 94 #[.val (.ref fa), .val (.int ln)] [(.int f2), (.int (2 : Int32)), (.ref b404), (.ref b404), (.ref b392), (.ref b392)])) rfl rfl (hb hby mk_d94)
          have O457 := O440.wr W456 ge405
          have KP458 := KP441.wr W456 (Or.inr sz406)
          have Zs459 := Nat.le_trans Zs442 (Keep.of_wr W456).1
          have CR460 := CR443.trans (CHr.wr W456 f450 CR443.1)
          have hk461 := Nat.le_trans hk444 (Keep.of_wr W456).1
          have f462 := f445.other W456 (Nat.ne_of_lt (Nat.lt_of_lt_of_le f400.lt (Nat.le_of_eq g404.symm)))
          have f463 := f446.wr W456
          have f464 := f447.other W456 (Or.inl (Nat.ne_of_lt (Nat.lt_of_lt_of_le A392.lt (Nat.le_of_eq g404.symm))))
          have f465 := f448.other W456 (Or.inl (Nat.ne_of_lt (Nat.lt_of_lt_of_le A392.lt (Nat.le_of_eq g404.symm))))
          have f466 := (Safe.wr W456 f450 CR443.1 f449)
          have f467 := (Safe.wr W456 f450 CR443.1 f450)
          have V468 : Arv Z h456 b404 k404 .char (3 : Int32) [(.int (nar .char f0)), (.int (nar .char f1)), (.int (nar .char f2))] (.int (0 : Int32)) := Arv.set A455 q455 S455 M455 H455 U455 (fits_nar_char _) W456 2 rfl (Nat.le_of_ble_eq_true rfl)
          have N469 := Fr.snoc X456 N452 ge405
          refine own_back st456 ?_
          show OwnGo p e below (T456.setTop (mkF m 95 #[.val (.ref fa), .val (.int ln)] [(.ref b404), (.ref b392), (.ref b392)])) _
          obtain ⟨_, _, ⟨T470, L470, k470, n470⟩, -, X470, ⟨Lc470, hQ470, l470, y470, z470⟩, st470⟩ := X456.specialBack hx (y := (⟨"java/lang/String", "<init>", "([C)V"⟩ : MethodName)) rfl hown (mvT hZ (hw _ (List.mem_of_getElem? (i := 8) rfl))) (mvT hZ (hw _ (List.mem_of_getElem? (i := 9) rfl))) (mvT hZ (hw _ (List.mem_of_getElem? (i := 10) rfl))) (by decide) (StrChars.Road.backV (W := 1) hZ (own_wV hw) (kI := 4) (hw _ (List.mem_of_getElem? (i := 6) rfl)) (cs := ([(nar .char f0), (nar .char f1), (nar .char f2)] : List Int32)) (bs := ([(nar .char f0), (nar .char f1), (nar .char f2)] : List Int32).map (fun c => c.toInt8.toInt32)) (n := 3) ge393 Zs459 f463 f464 f465 V468 (SC.ext O457.2) hcz rfl rfl (by decide) (by decide) (own_allS (own_hpn H0) (own_allS (own_hpn H1) (own_allS (own_hpn H2) own_all0))) rfl (by decide) (by decide)) (g := (mkF m 95 #[.val (.ref fa), .val (.int ln)] [(.ref b404), (.ref b392), (.ref b392)])) rfl (by rw [hml]; rfl) (Steps.refl _) (a := b392) (argsL := [(.ref b404)]) (rest := [(.ref b392)]) (lenOf mk_pd0 rfl) rfl (by show 2 * 0 + _ ≤ _; exact Nat.le_of_eq rfl) (hb hby mk_d95) (fun _ _ => ⟨rfl, e456, Nat.le_of_ble_eq_true rfl, Nat.le_of_ble_eq_true rfl⟩)
          dsimp only [Pt.U, Pt.locs, Pt.cells, Pt.slots] at X470 l470 y470 z470 st470 hQ470
          subst l470 y470 z470
          obtain ⟨rfl, N470q, K470, EX470, C470, t470, kb470, gt470, zt470, nt470, FV470, AV470⟩ := hQ470
          refine own_seq st470 ?_
          have N470 := Fr.app N469 N470q
          have O471 := O457.keep K470 (allS ge393 all0)
          have KP472 := KP458.trans K470 (allS (Or.inr sz394) all0)
          have Zs473 := Nat.le_trans Zs459 K470.1
          have CR474 := CR460.trans (CHr.keep K470 (sfS f466 sf0) CR460.1)
          have hk475 := Nat.le_trans hk461 K470.1
          have f476 := f462.keep K470 (ninS (Nat.ne_of_lt (Nat.lt_of_lt_of_le VF.lt (Nat.le_of_eq g392.symm))) nin0)
          have f477 := f463.keep K470
          have f478 := (Safe.keep K470 (sfS f466 sf0) CR460.1 f466)
          have f479 := (Safe.keep K470 (sfS f466 sf0) CR460.1 f467)
          have f480 := V468.keep K470 (ninS (Ne.symm (Nat.ne_of_lt (Nat.lt_of_lt_of_le A392.lt (Nat.le_of_eq g404.symm)))) nin0)
          show OwnGo p e below (T470.setTop (mkF m 98 #[.val (.ref fa), .val (.int ln)] [(.ref b392)])) _
          refine own_retAW X470 hx Bd.notSynchronized Bd.returns rfl rfl hS0 hk475 hZ hEL (hh ▸ CR474) (hb hby mk_d98) rfl (Nat.le_of_ble_eq_true rfl) (Nat.le_of_ble_eq_true rfl) ?_
          exact ⟨b392, rfl, N470, own_ext KP472, by rw [own_mk, if_neg hc1_224, if_neg hc17_262, if_neg hc39_318, if_pos hc67_391]; exact (⟨t470, kb470, EX470, C470, FV470, AV470, Nat.le_of_ble_eq_true rfl⟩ : OwnStr Z T470.heap b392 [((nar .char f0)).toInt8.toInt32, ((nar .char f1)).toInt8.toInt32, ((nar .char f2)).toInt8.toInt32])⟩
        · refine own_back (fun t k => XS.icmpYes X0.here hx rfl (pc0 := 67) (pc' := 99) rfl (hb hby mk_d67) rfl (Jvm.Free.XT.ii_ne_t hc67_391) (by decide) (by decide) k) ?_
          show OwnGo p e below (s₁.setTop (mkF m 99 #[.val (.ref fa), .val (.int ln)] [])) _
          refine own_back (fun t k => XS.iloadN X0.here hx rfl (hb hby mk_d99) rfl k) ?_
          show OwnGo p e below (s₁.setTop (mkF m 100 #[.val (.ref fa), .val (.int ln)] [(.int ln)])) _
          refine own_back (fun t k => XS.iconst X0.here hx rfl (hb hby mk_d100) k) ?_
          show OwnGo p e below (s₁.setTop (mkF m 101 #[.val (.ref fa), .val (.int ln)] [(.int (4 : Int32)), (.int ln)])) _
          by_cases hc101_481 : ln = (4 : Int32)
          · refine own_back (fun t k => XS.icmpNo X0.here hx rfl (hb hby mk_d101) rfl (Jvm.Free.XT.ii_ne_f hc101_481) k) ?_
            show OwnGo p e below (s₁.setTop (mkF m 104 #[.val (.ref fa), .val (.int ln)] [])) _
            obtain ⟨T482, h482, X482, e482, E482, A482, D482, -, st482⟩ := newO X0 hx hZ hown (hw _ (List.mem_of_getElem? (i := 5) rfl)) (hw _ (List.mem_of_getElem? (i := 6) rfl)) (hw _ (List.mem_of_getElem? (i := 7) rfl)) e0 (g := (mkF m 104 #[.val (.ref fa), .val (.int ln)] [])) rfl (hb hby mk_d104) (Nat.le_of_ble_eq_true rfl) (Nat.le_of_ble_eq_true rfl)
            obtain ⟨b482, g482⟩ : ∃ z, z = h0.size := ⟨_, rfl⟩
            have ge483 : n0 ≤ b482 := Nat.le_trans Z0 (Nat.le_of_eq g482.symm)
            have sz484 : h0.size ≤ b482 := Nat.le_trans KP0.1 (Nat.le_of_eq g482.symm)
            rw [← g482] at A482 D482 st482
            have O485 := OL.ext E482
            have KP486 := KP0.ext E482
            have Zs487 := Nat.le_trans Z0 E482.1
            have CR488 := CR0.trans (CHr.ext E482 CR0.1)
            have hk489 := Nat.le_trans hk0 E482.1
            have f490 := VF.ext E482
            have F491 : Fld Z h482 b482 "java/lang/String" "value" "[B" .null := D482 (Or.inr (hw _ (List.mem_of_getElem? (i := 20) rfl))) (ty := (.array .byte)) (by decide)
            have F492 : Fld Z h482 b482 "java/lang/String" "coder" "B" (.int (0 : Int32)) := D482 (Or.inr (hw _ (List.mem_of_getElem? (i := 21) rfl))) (ty := .byte) (by decide)
            have sf493 := Safe.ext E482 CR0.1 (Safe.new (Nat.le_of_eq g482.symm))
            refine own_back st482 ?_
            show OwnGo p e below (T482.setTop (mkF m 107 #[.val (.ref fa), .val (.int ln)] [(.ref b482)])) _
            refine own_back (fun t k => XS.dup X482.here hx rfl (hb hby mk_d107) rfl rfl k) ?_
            show OwnGo p e below (T482.setTop (mkF m 108 #[.val (.ref fa), .val (.int ln)] [(.ref b482), (.ref b482)])) _
            refine own_back (fun t k => XS.iconst X482.here hx rfl (hb hby mk_d108) k) ?_
            show OwnGo p e below (T482.setTop (mkF m 109 #[.val (.ref fa), .val (.int ln)] [(.int (4 : Int32)), (.ref b482), (.ref b482)])) _
            obtain ⟨T494, h494, k494, X494, e494, E494, A494, st494⟩ := newP X482 hx hZ (hw _ (List.mem_of_getElem? (i := 0) rfl)) e482 (g := (mkF m 109 #[.val (.ref fa), .val (.int ln)] [(.int (4 : Int32)), (.ref b482), (.ref b482)])) rfl (hb hby mk_d109) rfl (by decide) (cap := 4) (by decide) (by decide) (Nat.le_of_ble_eq_true rfl) (Nat.le_of_ble_eq_true rfl)
            obtain ⟨b494, g494⟩ : ∃ z, z = h482.size := ⟨_, rfl⟩
            have ge495 : n0 ≤ b494 := Nat.le_trans Zs487 (Nat.le_of_eq g494.symm)
            have sz496 : h0.size ≤ b494 := Nat.le_trans KP486.1 (Nat.le_of_eq g494.symm)
            rw [← g494] at A494 st494
            have O497 := O485.ext E494
            have KP498 := KP486.ext E494
            have Zs499 := Nat.le_trans Zs487 E494.1
            have CR500 := CR488.trans (CHr.ext E494 CR488.1)
            have hk501 := Nat.le_trans hk489 E494.1
            have f502 := f490.ext E494
            have f503 := A482.ext E494
            have f504 := F491.ext E494
            have f505 := F492.ext E494
            have f506 := (Safe.ext E494 CR488.1 sf493)
            have V507 : Arv Z h494 b494 k494 .char (4 : Int32) [(.int (0 : Int32)), (.int (0 : Int32)), (.int (0 : Int32)), (.int (0 : Int32))] (.int (0 : Int32)) := (Arv.new A494 (by decide)).pad (pad_rep [] (.int (0 : Int32)) 4)
            have sf508 := Safe.ext E494 CR488.1 (Safe.new (Nat.le_of_eq g494.symm))
            refine own_back st494 ?_
            show OwnGo p e below (T494.setTop (mkF m 111 #[.val (.ref fa), .val (.int ln)] [(.ref b494), (.ref b482), (.ref b482)])) _
            refine own_back (fun t k => XS.dup X494.here hx rfl (hb hby mk_d111) rfl rfl k) ?_
            show OwnGo p e below (T494.setTop (mkF m 112 #[.val (.ref fa), .val (.int ln)] [(.ref b494), (.ref b494), (.ref b482), (.ref b482)])) _
            refine own_back (fun t k => XS.iconst X494.here hx rfl (hb hby mk_d112) k) ?_
            show OwnGo p e below (T494.setTop (mkF m 113 #[.val (.ref fa), .val (.int ln)] [(.int (0 : Int32)), (.ref b494), (.ref b494), (.ref b482), (.ref b482)])) _
            refine own_back (fun t k => XS.aloadN X494.here hx rfl (hb hby mk_d113) rfl rfl k) ?_
            show OwnGo p e below (T494.setTop (mkF m 114 #[.val (.ref fa), .val (.int ln)] [(.ref fa), (.int (0 : Int32)), (.ref b494), (.ref b494), (.ref b482), (.ref b482)])) _
            refine own_back (fun t k => XS.iconst X494.here hx rfl (hb hby mk_d114) k) ?_
            show OwnGo p e below (T494.setTop (mkF m 115 #[.val (.ref fa), .val (.int ln)] [(.int (0 : Int32)), (.ref fa), (.int (0 : Int32)), (.ref b494), (.ref b494), (.ref b482), (.ref b482)])) _
            obtain ⟨c509, A509, q509, S509, M509, H509, U509⟩ := id f502
            have ib510 : ¬ ((0 : Int32) < 0 ∨ c509.slots.size ≤ ((0 : Int32)).toNatClampNeg) := (inb_of S509 ⟨by decide, by decide⟩)
            refine own_back (fun t k => X494.caload hx (j := (0 : Int32)) (v := (.int f0)) (own_hat e494 A509.1) (State.isArrayOf_alike hZ.alike A509.2.1) A509.2.2 ib510 (H509.at ib510 rfl) (g := (mkF m 115 #[.val (.ref fa), .val (.int ln)] [(.int (0 : Int32)), (.ref fa), (.int (0 : Int32)), (.ref b494), (.ref b494), (.ref b482), (.ref b482)])) rfl rfl (hb hby mk_d115) t k) ?_
            show OwnGo p e below (T494.setTop (mkF m 116 #[.val (.ref fa), .val (.int ln)] [(.int f0), (.int (0 : Int32)), (.ref b494), (.ref b494), (.ref b482), (.ref b482)])) _
            obtain ⟨c511, A511, q511, S511, M511, H511, U511⟩ := id V507
            obtain ⟨T512, h512, X512, e512, W512, st512⟩ := stC X494 hx hZ e494 A511 (j := (0 : Int32)) (inb_of S511 ⟨by decide, by decide⟩) (g := (mkF m 116 #[.val (.ref fa), .val (.int ln)] [(.int f0), (.int (0 : Int32)), (.ref b494), (.ref b494), (.ref b482), (.ref b482)])) rfl rfl (hb hby mk_d116)
            have O513 := O497.wr W512 ge495
            have KP514 := KP498.wr W512 (Or.inr sz496)
            have Zs515 := Nat.le_trans Zs499 (Keep.of_wr W512).1
            have CR516 := CR500.trans (CHr.wr W512 sf508 CR500.1)
            have hk517 := Nat.le_trans hk501 (Keep.of_wr W512).1
            have f518 := f502.other W512 (Nat.ne_of_lt (Nat.lt_of_lt_of_le f490.lt (Nat.le_of_eq g494.symm)))
            have f519 := f503.wr W512
            have f520 := f504.other W512 (Or.inl (Nat.ne_of_lt (Nat.lt_of_lt_of_le A482.lt (Nat.le_of_eq g494.symm))))
            have f521 := f505.other W512 (Or.inl (Nat.ne_of_lt (Nat.lt_of_lt_of_le A482.lt (Nat.le_of_eq g494.symm))))
            have f522 := (Safe.wr W512 sf508 CR500.1 f506)
            have f523 := (Safe.wr W512 sf508 CR500.1 sf508)
            have V524 : Arv Z h512 b494 k494 .char (4 : Int32) [(.int (nar .char f0)), (.int (0 : Int32)), (.int (0 : Int32)), (.int (0 : Int32))] (.int (0 : Int32)) := Arv.set A511 q511 S511 M511 H511 U511 (fits_nar_char _) W512 0 rfl (Nat.le_of_ble_eq_true rfl)
            have N525 := Fr.snoc X512 N0 ge495
            refine own_back st512 ?_
            show OwnGo p e below (T512.setTop (mkF m 117 #[.val (.ref fa), .val (.int ln)] [(.ref b494), (.ref b482), (.ref b482)])) _
            refine own_back (fun t k => XS.dup X512.here hx rfl (hb hby mk_d117) rfl rfl k) ?_
            show OwnGo p e below (T512.setTop (mkF m 118 #[.val (.ref fa), .val (.int ln)] [(.ref b494), (.ref b494), (.ref b482), (.ref b482)])) _
            refine own_back (fun t k => XS.iconst X512.here hx rfl (hb hby mk_d118) k) ?_
            show OwnGo p e below (T512.setTop (mkF m 119 #[.val (.ref fa), .val (.int ln)] [(.int (1 : Int32)), (.ref b494), (.ref b494), (.ref b482), (.ref b482)])) _
            refine own_back (fun t k => XS.aloadN X512.here hx rfl (hb hby mk_d119) rfl rfl k) ?_
            show OwnGo p e below (T512.setTop (mkF m 120 #[.val (.ref fa), .val (.int ln)] [(.ref fa), (.int (1 : Int32)), (.ref b494), (.ref b494), (.ref b482), (.ref b482)])) _
            refine own_back (fun t k => XS.iconst X512.here hx rfl (hb hby mk_d120) k) ?_
            show OwnGo p e below (T512.setTop (mkF m 121 #[.val (.ref fa), .val (.int ln)] [(.int (1 : Int32)), (.ref fa), (.int (1 : Int32)), (.ref b494), (.ref b494), (.ref b482), (.ref b482)])) _
            obtain ⟨c526, A526, q526, S526, M526, H526, U526⟩ := id f518
            have ib527 : ¬ ((1 : Int32) < 0 ∨ c526.slots.size ≤ ((1 : Int32)).toNatClampNeg) := (inb_of S526 ⟨by decide, by decide⟩)
            refine own_back (fun t k => X512.caload hx (j := (1 : Int32)) (v := (.int f1)) (own_hat e512 A526.1) (State.isArrayOf_alike hZ.alike A526.2.1) A526.2.2 ib527 (H526.at ib527 rfl) (g := (mkF m 121 #[.val (.ref fa), .val (.int ln)] [(.int (1 : Int32)), (.ref fa), (.int (1 : Int32)), (.ref b494), (.ref b494), (.ref b482), (.ref b482)])) rfl rfl (hb hby mk_d121) t k) ?_
            show OwnGo p e below (T512.setTop (mkF m 122 #[.val (.ref fa), .val (.int ln)] [(.int f1), (.int (1 : Int32)), (.ref b494), (.ref b494), (.ref b482), (.ref b482)])) _
            obtain ⟨c528, A528, q528, S528, M528, H528, U528⟩ := id V524
            obtain ⟨T529, h529, X529, e529, W529, st529⟩ := stC X512 hx hZ e512 A528 (j := (1 : Int32)) (inb_of S528 ⟨by decide, by decide⟩) (g := (mkF m 122 #[.val (.ref fa), .val (.int ln)] [(.int f1), (.int (1 : Int32)), (.ref b494), (.ref b494), (.ref b482), (.ref b482)])) rfl rfl (hb hby mk_d122)
            have O530 := O513.wr W529 ge495
            have KP531 := KP514.wr W529 (Or.inr sz496)
            have Zs532 := Nat.le_trans Zs515 (Keep.of_wr W529).1
            have CR533 := CR516.trans (CHr.wr W529 f523 CR516.1)
            have hk534 := Nat.le_trans hk517 (Keep.of_wr W529).1
            have f535 := f518.other W529 (Nat.ne_of_lt (Nat.lt_of_lt_of_le f490.lt (Nat.le_of_eq g494.symm)))
            have f536 := f519.wr W529
            have f537 := f520.other W529 (Or.inl (Nat.ne_of_lt (Nat.lt_of_lt_of_le A482.lt (Nat.le_of_eq g494.symm))))
            have f538 := f521.other W529 (Or.inl (Nat.ne_of_lt (Nat.lt_of_lt_of_le A482.lt (Nat.le_of_eq g494.symm))))
            have f539 := (Safe.wr W529 f523 CR516.1 f522)
            have f540 := (Safe.wr W529 f523 CR516.1 f523)
            have V541 : Arv Z h529 b494 k494 .char (4 : Int32) [(.int (nar .char f0)), (.int (nar .char f1)), (.int (0 : Int32)), (.int (0 : Int32))] (.int (0 : Int32)) := Arv.set A528 q528 S528 M528 H528 U528 (fits_nar_char _) W529 1 rfl (Nat.le_of_ble_eq_true rfl)
            have N542 := Fr.snoc X529 N525 ge495
            refine own_back st529 ?_
            show OwnGo p e below (T529.setTop (mkF m 123 #[.val (.ref fa), .val (.int ln)] [(.ref b494), (.ref b482), (.ref b482)])) _
            refine own_back (fun t k => XS.dup X529.here hx rfl (hb hby mk_d123) rfl rfl k) ?_
            show OwnGo p e below (T529.setTop (mkF m 124 #[.val (.ref fa), .val (.int ln)] [(.ref b494), (.ref b494), (.ref b482), (.ref b482)])) _
            refine own_back (fun t k => XS.iconst X529.here hx rfl (hb hby mk_d124) k) ?_
            show OwnGo p e below (T529.setTop (mkF m 125 #[.val (.ref fa), .val (.int ln)] [(.int (2 : Int32)), (.ref b494), (.ref b494), (.ref b482), (.ref b482)])) _
            refine own_back (fun t k => XS.aloadN X529.here hx rfl (hb hby mk_d125) rfl rfl k) ?_
            show OwnGo p e below (T529.setTop (mkF m 126 #[.val (.ref fa), .val (.int ln)] [(.ref fa), (.int (2 : Int32)), (.ref b494), (.ref b494), (.ref b482), (.ref b482)])) _
            refine own_back (fun t k => XS.iconst X529.here hx rfl (hb hby mk_d126) k) ?_
            show OwnGo p e below (T529.setTop (mkF m 127 #[.val (.ref fa), .val (.int ln)] [(.int (2 : Int32)), (.ref fa), (.int (2 : Int32)), (.ref b494), (.ref b494), (.ref b482), (.ref b482)])) _
            obtain ⟨c543, A543, q543, S543, M543, H543, U543⟩ := id f535
            have ib544 : ¬ ((2 : Int32) < 0 ∨ c543.slots.size ≤ ((2 : Int32)).toNatClampNeg) := (inb_of S543 ⟨by decide, by decide⟩)
            refine own_back (fun t k => X529.caload hx (j := (2 : Int32)) (v := (.int f2)) (own_hat e529 A543.1) (State.isArrayOf_alike hZ.alike A543.2.1) A543.2.2 ib544 (H543.at ib544 rfl) (g := (mkF m 127 #[.val (.ref fa), .val (.int ln)] [(.int (2 : Int32)), (.ref fa), (.int (2 : Int32)), (.ref b494), (.ref b494), (.ref b482), (.ref b482)])) rfl rfl (hb hby mk_d127) t k) ?_
            show OwnGo p e below (T529.setTop (mkF m 128 #[.val (.ref fa), .val (.int ln)] [(.int f2), (.int (2 : Int32)), (.ref b494), (.ref b494), (.ref b482), (.ref b482)])) _
            obtain ⟨c545, A545, q545, S545, M545, H545, U545⟩ := id V541
            obtain ⟨T546, h546, X546, e546, W546, st546⟩ := stC X529 hx hZ e529 A545 (j := (2 : Int32)) (inb_of S545 ⟨by decide, by decide⟩) (g := (mkF m 128 #[.val (.ref fa), .val (.int ln)] [(.int f2), (.int (2 : Int32)), (.ref b494), (.ref b494), (.ref b482), (.ref b482)])) rfl rfl (hb hby mk_d128)
            have O547 := O530.wr W546 ge495
            have KP548 := KP531.wr W546 (Or.inr sz496)
            have Zs549 := Nat.le_trans Zs532 (Keep.of_wr W546).1
            have CR550 := CR533.trans (CHr.wr W546 f540 CR533.1)
            have hk551 := Nat.le_trans hk534 (Keep.of_wr W546).1
            have f552 := f535.other W546 (Nat.ne_of_lt (Nat.lt_of_lt_of_le f490.lt (Nat.le_of_eq g494.symm)))
            have f553 := f536.wr W546
            have f554 := f537.other W546 (Or.inl (Nat.ne_of_lt (Nat.lt_of_lt_of_le A482.lt (Nat.le_of_eq g494.symm))))
            have f555 := f538.other W546 (Or.inl (Nat.ne_of_lt (Nat.lt_of_lt_of_le A482.lt (Nat.le_of_eq g494.symm))))
            have f556 := (Safe.wr W546 f540 CR533.1 f539)
            have f557 := (Safe.wr W546 f540 CR533.1 f540)
            have V558 : Arv Z h546 b494 k494 .char (4 : Int32) [(.int (nar .char f0)), (.int (nar .char f1)), (.int (nar .char f2)), (.int (0 : Int32))] (.int (0 : Int32)) := Arv.set A545 q545 S545 M545 H545 U545 (fits_nar_char _) W546 2 rfl (Nat.le_of_ble_eq_true rfl)
            have N559 := Fr.snoc X546 N542 ge495
            refine own_back st546 ?_
            show OwnGo p e below (T546.setTop (mkF m 129 #[.val (.ref fa), .val (.int ln)] [(.ref b494), (.ref b482), (.ref b482)])) _
            refine own_back (fun t k => XS.dup X546.here hx rfl (hb hby mk_d129) rfl rfl k) ?_
            show OwnGo p e below (T546.setTop (mkF m 130 #[.val (.ref fa), .val (.int ln)] [(.ref b494), (.ref b494), (.ref b482), (.ref b482)])) _
            refine own_back (fun t k => XS.iconst X546.here hx rfl (hb hby mk_d130) k) ?_
            show OwnGo p e below (T546.setTop (mkF m 131 #[.val (.ref fa), .val (.int ln)] [(.int (3 : Int32)), (.ref b494), (.ref b494), (.ref b482), (.ref b482)])) _
            refine own_back (fun t k => XS.aloadN X546.here hx rfl (hb hby mk_d131) rfl rfl k) ?_
            show OwnGo p e below (T546.setTop (mkF m 132 #[.val (.ref fa), .val (.int ln)] [(.ref fa), (.int (3 : Int32)), (.ref b494), (.ref b494), (.ref b482), (.ref b482)])) _
            refine own_back (fun t k => XS.iconst X546.here hx rfl (hb hby mk_d132) k) ?_
            show OwnGo p e below (T546.setTop (mkF m 133 #[.val (.ref fa), .val (.int ln)] [(.int (3 : Int32)), (.ref fa), (.int (3 : Int32)), (.ref b494), (.ref b494), (.ref b482), (.ref b482)])) _
            obtain ⟨c560, A560, q560, S560, M560, H560, U560⟩ := id f552
            have ib561 : ¬ ((3 : Int32) < 0 ∨ c560.slots.size ≤ ((3 : Int32)).toNatClampNeg) := (inb_of S560 ⟨by decide, by decide⟩)
            refine own_back (fun t k => X546.caload hx (j := (3 : Int32)) (v := (.int f3)) (own_hat e546 A560.1) (State.isArrayOf_alike hZ.alike A560.2.1) A560.2.2 ib561 (H560.at ib561 rfl) (g := (mkF m 133 #[.val (.ref fa), .val (.int ln)] [(.int (3 : Int32)), (.ref fa), (.int (3 : Int32)), (.ref b494), (.ref b494), (.ref b482), (.ref b482)])) rfl rfl (hb hby mk_d133) t k) ?_
            show OwnGo p e below (T546.setTop (mkF m 134 #[.val (.ref fa), .val (.int ln)] [(.int f3), (.int (3 : Int32)), (.ref b494), (.ref b494), (.ref b482), (.ref b482)])) _
            obtain ⟨c562, A562, q562, S562, M562, H562, U562⟩ := id V558
            obtain ⟨T563, h563, X563, e563, W563, st563⟩ := stC X546 hx hZ e546 A562 (j := (3 : Int32)) (inb_of S562 ⟨by decide, by decide⟩) (g := (mkF m 134 #[.val (.ref fa), .val (.int ln)] [(.int f3), (.int (3 : Int32)), (.ref b494), (.ref b494), (.ref b482), (.ref b482)])) rfl rfl (hb hby mk_d134)
            have O564 := O547.wr W563 ge495
            have KP565 := KP548.wr W563 (Or.inr sz496)
            have Zs566 := Nat.le_trans Zs549 (Keep.of_wr W563).1
            have CR567 := CR550.trans (CHr.wr W563 f557 CR550.1)
            have hk568 := Nat.le_trans hk551 (Keep.of_wr W563).1
            have f569 := f552.other W563 (Nat.ne_of_lt (Nat.lt_of_lt_of_le f490.lt (Nat.le_of_eq g494.symm)))
            have f570 := f553.wr W563
            have f571 := f554.other W563 (Or.inl (Nat.ne_of_lt (Nat.lt_of_lt_of_le A482.lt (Nat.le_of_eq g494.symm))))
            have f572 := f555.other W563 (Or.inl (Nat.ne_of_lt (Nat.lt_of_lt_of_le A482.lt (Nat.le_of_eq g494.symm))))
            have f573 := (Safe.wr W563 f557 CR550.1 f556)
            have f574 := (Safe.wr W563 f557 CR550.1 f557)
            have V575 : Arv Z h563 b494 k494 .char (4 : Int32) [(.int (nar .char f0)), (.int (nar .char f1)), (.int (nar .char f2)), (.int (nar .char f3))] (.int (0 : Int32)) := Arv.set A562 q562 S562 M562 H562 U562 (fits_nar_char _) W563 3 rfl (Nat.le_of_ble_eq_true rfl)
            have N576 := Fr.snoc X563 N559 ge495
            refine own_back st563 ?_
            show OwnGo p e below (T563.setTop (mkF m 135 #[.val (.ref fa), .val (.int ln)] [(.ref b494), (.ref b482), (.ref b482)])) _
            obtain ⟨_, _, ⟨T577, L577, k577, n577⟩, -, X577, ⟨Lc577, hQ577, l577, y577, z577⟩, st577⟩ := X563.specialBack hx (y := (⟨"java/lang/String", "<init>", "([C)V"⟩ : MethodName)) rfl hown (mvT hZ (hw _ (List.mem_of_getElem? (i := 8) rfl))) (mvT hZ (hw _ (List.mem_of_getElem? (i := 9) rfl))) (mvT hZ (hw _ (List.mem_of_getElem? (i := 10) rfl))) (by decide) (StrChars.Road.backV (W := 1) hZ (own_wV hw) (kI := 4) (hw _ (List.mem_of_getElem? (i := 6) rfl)) (cs := ([(nar .char f0), (nar .char f1), (nar .char f2), (nar .char f3)] : List Int32)) (bs := ([(nar .char f0), (nar .char f1), (nar .char f2), (nar .char f3)] : List Int32).map (fun c => c.toInt8.toInt32)) (n := 4) ge483 Zs566 f570 f571 f572 V575 (SC.ext O564.2) hcz rfl rfl (by decide) (by decide) (own_allS (own_hpn H0) (own_allS (own_hpn H1) (own_allS (own_hpn H2) (own_allS (own_hpn H3) own_all0)))) rfl (by decide) (by decide)) (g := (mkF m 135 #[.val (.ref fa), .val (.int ln)] [(.ref b494), (.ref b482), (.ref b482)])) rfl (by rw [hml]; rfl) (Steps.refl _) (a := b482) (argsL := [(.ref b494)]) (rest := [(.ref b482)]) (lenOf mk_pd0 rfl) rfl (by show 2 * 0 + _ ≤ _; exact Nat.le_of_eq rfl) (hb hby mk_d135) (fun _ _ => ⟨rfl, e563, Nat.le_of_ble_eq_true rfl, Nat.le_of_ble_eq_true rfl⟩)
            dsimp only [Pt.U, Pt.locs, Pt.cells, Pt.slots] at X577 l577 y577 z577 st577 hQ577
            subst l577 y577 z577
            obtain ⟨rfl, N577q, K577, EX577, C577, t577, kb577, gt577, zt577, nt577, FV577, AV577⟩ := hQ577
            refine own_seq st577 ?_
            have N577 := Fr.app N576 N577q
            have O578 := O564.keep K577 (allS ge483 all0)
            have KP579 := KP565.trans K577 (allS (Or.inr sz484) all0)
            have Zs580 := Nat.le_trans Zs566 K577.1
            have CR581 := CR567.trans (CHr.keep K577 (sfS f573 sf0) CR567.1)
            have hk582 := Nat.le_trans hk568 K577.1
            have f583 := f569.keep K577 (ninS (Nat.ne_of_lt (Nat.lt_of_lt_of_le VF.lt (Nat.le_of_eq g482.symm))) nin0)
            have f584 := f570.keep K577
            have f585 := (Safe.keep K577 (sfS f573 sf0) CR567.1 f573)
            have f586 := (Safe.keep K577 (sfS f573 sf0) CR567.1 f574)
            have f587 := V575.keep K577 (ninS (Ne.symm (Nat.ne_of_lt (Nat.lt_of_lt_of_le A482.lt (Nat.le_of_eq g494.symm)))) nin0)
            show OwnGo p e below (T577.setTop (mkF m 138 #[.val (.ref fa), .val (.int ln)] [(.ref b482)])) _
            refine own_retAW X577 hx Bd.notSynchronized Bd.returns rfl rfl hS0 hk582 hZ hEL (hh ▸ CR581) (hb hby mk_d138) rfl (Nat.le_of_ble_eq_true rfl) (Nat.le_of_ble_eq_true rfl) ?_
            exact ⟨b482, rfl, N577, own_ext KP579, by rw [own_mk, if_neg hc1_224, if_neg hc17_262, if_neg hc39_318, if_neg hc67_391, if_pos hc101_481]; exact (⟨t577, kb577, EX577, C577, FV577, AV577, Nat.le_of_ble_eq_true rfl⟩ : OwnStr Z T577.heap b482 [((nar .char f0)).toInt8.toInt32, ((nar .char f1)).toInt8.toInt32, ((nar .char f2)).toInt8.toInt32, ((nar .char f3)).toInt8.toInt32])⟩
          · refine own_back (fun t k => XS.icmpYes X0.here hx rfl (pc0 := 101) (pc' := 139) rfl (hb hby mk_d101) rfl (Jvm.Free.XT.ii_ne_t hc101_481) (by decide) (by decide) k) ?_
            show OwnGo p e below (s₁.setTop (mkF m 139 #[.val (.ref fa), .val (.int ln)] [])) _
            refine own_back (fun t k => XS.iloadN X0.here hx rfl (hb hby mk_d139) rfl k) ?_
            show OwnGo p e below (s₁.setTop (mkF m 140 #[.val (.ref fa), .val (.int ln)] [(.int ln)])) _
            refine own_back (fun t k => XS.iconst X0.here hx rfl (hb hby mk_d140) k) ?_
            show OwnGo p e below (s₁.setTop (mkF m 141 #[.val (.ref fa), .val (.int ln)] [(.int (5 : Int32)), (.int ln)])) _
            by_cases hc141_588 : ln = (5 : Int32)
            · refine own_back (fun t k => XS.icmpNo X0.here hx rfl (hb hby mk_d141) rfl (Jvm.Free.XT.ii_ne_f hc141_588) k) ?_
              show OwnGo p e below (s₁.setTop (mkF m 144 #[.val (.ref fa), .val (.int ln)] [])) _
              obtain ⟨T589, h589, X589, e589, E589, A589, D589, -, st589⟩ := newO X0 hx hZ hown (hw _ (List.mem_of_getElem? (i := 5) rfl)) (hw _ (List.mem_of_getElem? (i := 6) rfl)) (hw _ (List.mem_of_getElem? (i := 7) rfl)) e0 (g := (mkF m 144 #[.val (.ref fa), .val (.int ln)] [])) rfl (hb hby mk_d144) (Nat.le_of_ble_eq_true rfl) (Nat.le_of_ble_eq_true rfl)
              obtain ⟨b589, g589⟩ : ∃ z, z = h0.size := ⟨_, rfl⟩
              have ge590 : n0 ≤ b589 := Nat.le_trans Z0 (Nat.le_of_eq g589.symm)
              have sz591 : h0.size ≤ b589 := Nat.le_trans KP0.1 (Nat.le_of_eq g589.symm)
              rw [← g589] at A589 D589 st589
              have O592 := OL.ext E589
              have KP593 := KP0.ext E589
              have Zs594 := Nat.le_trans Z0 E589.1
              have CR595 := CR0.trans (CHr.ext E589 CR0.1)
              have hk596 := Nat.le_trans hk0 E589.1
              have f597 := VF.ext E589
              have F598 : Fld Z h589 b589 "java/lang/String" "value" "[B" .null := D589 (Or.inr (hw _ (List.mem_of_getElem? (i := 20) rfl))) (ty := (.array .byte)) (by decide)
              have F599 : Fld Z h589 b589 "java/lang/String" "coder" "B" (.int (0 : Int32)) := D589 (Or.inr (hw _ (List.mem_of_getElem? (i := 21) rfl))) (ty := .byte) (by decide)
              have sf600 := Safe.ext E589 CR0.1 (Safe.new (Nat.le_of_eq g589.symm))
              refine own_back st589 ?_
              show OwnGo p e below (T589.setTop (mkF m 147 #[.val (.ref fa), .val (.int ln)] [(.ref b589)])) _
              refine own_back (fun t k => XS.dup X589.here hx rfl (hb hby mk_d147) rfl rfl k) ?_
              show OwnGo p e below (T589.setTop (mkF m 148 #[.val (.ref fa), .val (.int ln)] [(.ref b589), (.ref b589)])) _
              refine own_back (fun t k => XS.iconst X589.here hx rfl (hb hby mk_d148) k) ?_
              show OwnGo p e below (T589.setTop (mkF m 149 #[.val (.ref fa), .val (.int ln)] [(.int (5 : Int32)), (.ref b589), (.ref b589)])) _
              obtain ⟨T601, h601, k601, X601, e601, E601, A601, st601⟩ := newP X589 hx hZ (hw _ (List.mem_of_getElem? (i := 0) rfl)) e589 (g := (mkF m 149 #[.val (.ref fa), .val (.int ln)] [(.int (5 : Int32)), (.ref b589), (.ref b589)])) rfl (hb hby mk_d149) rfl (by decide) (cap := 5) (by decide) (by decide) (Nat.le_of_ble_eq_true rfl) (Nat.le_of_ble_eq_true rfl)
              obtain ⟨b601, g601⟩ : ∃ z, z = h589.size := ⟨_, rfl⟩
              have ge602 : n0 ≤ b601 := Nat.le_trans Zs594 (Nat.le_of_eq g601.symm)
              have sz603 : h0.size ≤ b601 := Nat.le_trans KP593.1 (Nat.le_of_eq g601.symm)
              rw [← g601] at A601 st601
              have O604 := O592.ext E601
              have KP605 := KP593.ext E601
              have Zs606 := Nat.le_trans Zs594 E601.1
              have CR607 := CR595.trans (CHr.ext E601 CR595.1)
              have hk608 := Nat.le_trans hk596 E601.1
              have f609 := f597.ext E601
              have f610 := A589.ext E601
              have f611 := F598.ext E601
              have f612 := F599.ext E601
              have f613 := (Safe.ext E601 CR595.1 sf600)
              have V614 : Arv Z h601 b601 k601 .char (5 : Int32) [(.int (0 : Int32)), (.int (0 : Int32)), (.int (0 : Int32)), (.int (0 : Int32)), (.int (0 : Int32))] (.int (0 : Int32)) := (Arv.new A601 (by decide)).pad (pad_rep [] (.int (0 : Int32)) 5)
              have sf615 := Safe.ext E601 CR595.1 (Safe.new (Nat.le_of_eq g601.symm))
              refine own_back st601 ?_
              show OwnGo p e below (T601.setTop (mkF m 151 #[.val (.ref fa), .val (.int ln)] [(.ref b601), (.ref b589), (.ref b589)])) _
              refine own_back (fun t k => XS.dup X601.here hx rfl (hb hby mk_d151) rfl rfl k) ?_
              show OwnGo p e below (T601.setTop (mkF m 152 #[.val (.ref fa), .val (.int ln)] [(.ref b601), (.ref b601), (.ref b589), (.ref b589)])) _
              refine own_back (fun t k => XS.iconst X601.here hx rfl (hb hby mk_d152) k) ?_
              show OwnGo p e below (T601.setTop (mkF m 153 #[.val (.ref fa), .val (.int ln)] [(.int (0 : Int32)), (.ref b601), (.ref b601), (.ref b589), (.ref b589)])) _
              refine own_back (fun t k => XS.aloadN X601.here hx rfl (hb hby mk_d153) rfl rfl k) ?_
              show OwnGo p e below (T601.setTop (mkF m 154 #[.val (.ref fa), .val (.int ln)] [(.ref fa), (.int (0 : Int32)), (.ref b601), (.ref b601), (.ref b589), (.ref b589)])) _
              refine own_back (fun t k => XS.iconst X601.here hx rfl (hb hby mk_d154) k) ?_
              show OwnGo p e below (T601.setTop (mkF m 155 #[.val (.ref fa), .val (.int ln)] [(.int (0 : Int32)), (.ref fa), (.int (0 : Int32)), (.ref b601), (.ref b601), (.ref b589), (.ref b589)])) _
              obtain ⟨c616, A616, q616, S616, M616, H616, U616⟩ := id f609
              have ib617 : ¬ ((0 : Int32) < 0 ∨ c616.slots.size ≤ ((0 : Int32)).toNatClampNeg) := (inb_of S616 ⟨by decide, by decide⟩)
              refine own_back (fun t k => X601.caload hx (j := (0 : Int32)) (v := (.int f0)) (own_hat e601 A616.1) (State.isArrayOf_alike hZ.alike A616.2.1) A616.2.2 ib617 (H616.at ib617 rfl) (g := (mkF m 155 #[.val (.ref fa), .val (.int ln)] [(.int (0 : Int32)), (.ref fa), (.int (0 : Int32)), (.ref b601), (.ref b601), (.ref b589), (.ref b589)])) rfl rfl (hb hby mk_d155) t k) ?_
              show OwnGo p e below (T601.setTop (mkF m 156 #[.val (.ref fa), .val (.int ln)] [(.int f0), (.int (0 : Int32)), (.ref b601), (.ref b601), (.ref b589), (.ref b589)])) _
              obtain ⟨c618, A618, q618, S618, M618, H618, U618⟩ := id V614
              obtain ⟨T619, h619, X619, e619, W619, st619⟩ := stC X601 hx hZ e601 A618 (j := (0 : Int32)) (inb_of S618 ⟨by decide, by decide⟩) (g := (mkF m 156 #[.val (.ref fa), .val (.int ln)] [(.int f0), (.int (0 : Int32)), (.ref b601), (.ref b601), (.ref b589), (.ref b589)])) rfl rfl (hb hby mk_d156)
              have O620 := O604.wr W619 ge602
              have KP621 := KP605.wr W619 (Or.inr sz603)
              have Zs622 := Nat.le_trans Zs606 (Keep.of_wr W619).1
              have CR623 := CR607.trans (CHr.wr W619 sf615 CR607.1)
              have hk624 := Nat.le_trans hk608 (Keep.of_wr W619).1
              have f625 := f609.other W619 (Nat.ne_of_lt (Nat.lt_of_lt_of_le f597.lt (Nat.le_of_eq g601.symm)))
              have f626 := f610.wr W619
              have f627 := f611.other W619 (Or.inl (Nat.ne_of_lt (Nat.lt_of_lt_of_le A589.lt (Nat.le_of_eq g601.symm))))
              have f628 := f612.other W619 (Or.inl (Nat.ne_of_lt (Nat.lt_of_lt_of_le A589.lt (Nat.le_of_eq g601.symm))))
              have f629 := (Safe.wr W619 sf615 CR607.1 f613)
              have f630 := (Safe.wr W619 sf615 CR607.1 sf615)
              have V631 : Arv Z h619 b601 k601 .char (5 : Int32) [(.int (nar .char f0)), (.int (0 : Int32)), (.int (0 : Int32)), (.int (0 : Int32)), (.int (0 : Int32))] (.int (0 : Int32)) := Arv.set A618 q618 S618 M618 H618 U618 (fits_nar_char _) W619 0 rfl (Nat.le_of_ble_eq_true rfl)
              have N632 := Fr.snoc X619 N0 ge602
              refine own_back st619 ?_
              show OwnGo p e below (T619.setTop (mkF m 157 #[.val (.ref fa), .val (.int ln)] [(.ref b601), (.ref b589), (.ref b589)])) _
              refine own_back (fun t k => XS.dup X619.here hx rfl (hb hby mk_d157) rfl rfl k) ?_
              show OwnGo p e below (T619.setTop (mkF m 158 #[.val (.ref fa), .val (.int ln)] [(.ref b601), (.ref b601), (.ref b589), (.ref b589)])) _
              refine own_back (fun t k => XS.iconst X619.here hx rfl (hb hby mk_d158) k) ?_
              show OwnGo p e below (T619.setTop (mkF m 159 #[.val (.ref fa), .val (.int ln)] [(.int (1 : Int32)), (.ref b601), (.ref b601), (.ref b589), (.ref b589)])) _
              refine own_back (fun t k => XS.aloadN X619.here hx rfl (hb hby mk_d159) rfl rfl k) ?_
              show OwnGo p e below (T619.setTop (mkF m 160 #[.val (.ref fa), .val (.int ln)] [(.ref fa), (.int (1 : Int32)), (.ref b601), (.ref b601), (.ref b589), (.ref b589)])) _
              refine own_back (fun t k => XS.iconst X619.here hx rfl (hb hby mk_d160) k) ?_
              show OwnGo p e below (T619.setTop (mkF m 161 #[.val (.ref fa), .val (.int ln)] [(.int (1 : Int32)), (.ref fa), (.int (1 : Int32)), (.ref b601), (.ref b601), (.ref b589), (.ref b589)])) _
              obtain ⟨c633, A633, q633, S633, M633, H633, U633⟩ := id f625
              have ib634 : ¬ ((1 : Int32) < 0 ∨ c633.slots.size ≤ ((1 : Int32)).toNatClampNeg) := (inb_of S633 ⟨by decide, by decide⟩)
              refine own_back (fun t k => X619.caload hx (j := (1 : Int32)) (v := (.int f1)) (own_hat e619 A633.1) (State.isArrayOf_alike hZ.alike A633.2.1) A633.2.2 ib634 (H633.at ib634 rfl) (g := (mkF m 161 #[.val (.ref fa), .val (.int ln)] [(.int (1 : Int32)), (.ref fa), (.int (1 : Int32)), (.ref b601), (.ref b601), (.ref b589), (.ref b589)])) rfl rfl (hb hby mk_d161) t k) ?_
              show OwnGo p e below (T619.setTop (mkF m 162 #[.val (.ref fa), .val (.int ln)] [(.int f1), (.int (1 : Int32)), (.ref b601), (.ref b601), (.ref b589), (.ref b589)])) _
              obtain ⟨c635, A635, q635, S635, M635, H635, U635⟩ := id V631
              obtain ⟨T636, h636, X636, e636, W636, st636⟩ := stC X619 hx hZ e619 A635 (j := (1 : Int32)) (inb_of S635 ⟨by decide, by decide⟩) (g := (mkF m 162 #[.val (.ref fa), .val (.int ln)] [(.int f1), (.int (1 : Int32)), (.ref b601), (.ref b601), (.ref b589), (.ref b589)])) rfl rfl (hb hby mk_d162)
              have O637 := O620.wr W636 ge602
              have KP638 := KP621.wr W636 (Or.inr sz603)
              have Zs639 := Nat.le_trans Zs622 (Keep.of_wr W636).1
              have CR640 := CR623.trans (CHr.wr W636 f630 CR623.1)
              have hk641 := Nat.le_trans hk624 (Keep.of_wr W636).1
              have f642 := f625.other W636 (Nat.ne_of_lt (Nat.lt_of_lt_of_le f597.lt (Nat.le_of_eq g601.symm)))
              have f643 := f626.wr W636
              have f644 := f627.other W636 (Or.inl (Nat.ne_of_lt (Nat.lt_of_lt_of_le A589.lt (Nat.le_of_eq g601.symm))))
              have f645 := f628.other W636 (Or.inl (Nat.ne_of_lt (Nat.lt_of_lt_of_le A589.lt (Nat.le_of_eq g601.symm))))
              have f646 := (Safe.wr W636 f630 CR623.1 f629)
              have f647 := (Safe.wr W636 f630 CR623.1 f630)
              have V648 : Arv Z h636 b601 k601 .char (5 : Int32) [(.int (nar .char f0)), (.int (nar .char f1)), (.int (0 : Int32)), (.int (0 : Int32)), (.int (0 : Int32))] (.int (0 : Int32)) := Arv.set A635 q635 S635 M635 H635 U635 (fits_nar_char _) W636 1 rfl (Nat.le_of_ble_eq_true rfl)
              have N649 := Fr.snoc X636 N632 ge602
              refine own_back st636 ?_
              show OwnGo p e below (T636.setTop (mkF m 163 #[.val (.ref fa), .val (.int ln)] [(.ref b601), (.ref b589), (.ref b589)])) _
              refine own_back (fun t k => XS.dup X636.here hx rfl (hb hby mk_d163) rfl rfl k) ?_
              show OwnGo p e below (T636.setTop (mkF m 164 #[.val (.ref fa), .val (.int ln)] [(.ref b601), (.ref b601), (.ref b589), (.ref b589)])) _
              refine own_back (fun t k => XS.iconst X636.here hx rfl (hb hby mk_d164) k) ?_
              show OwnGo p e below (T636.setTop (mkF m 165 #[.val (.ref fa), .val (.int ln)] [(.int (2 : Int32)), (.ref b601), (.ref b601), (.ref b589), (.ref b589)])) _
              refine own_back (fun t k => XS.aloadN X636.here hx rfl (hb hby mk_d165) rfl rfl k) ?_
              show OwnGo p e below (T636.setTop (mkF m 166 #[.val (.ref fa), .val (.int ln)] [(.ref fa), (.int (2 : Int32)), (.ref b601), (.ref b601), (.ref b589), (.ref b589)])) _
              refine own_back (fun t k => XS.iconst X636.here hx rfl (hb hby mk_d166) k) ?_
              show OwnGo p e below (T636.setTop (mkF m 167 #[.val (.ref fa), .val (.int ln)] [(.int (2 : Int32)), (.ref fa), (.int (2 : Int32)), (.ref b601), (.ref b601), (.ref b589), (.ref b589)])) _
              obtain ⟨c650, A650, q650, S650, M650, H650, U650⟩ := id f642
              have ib651 : ¬ ((2 : Int32) < 0 ∨ c650.slots.size ≤ ((2 : Int32)).toNatClampNeg) := (inb_of S650 ⟨by decide, by decide⟩)
              refine own_back (fun t k => X636.caload hx (j := (2 : Int32)) (v := (.int f2)) (own_hat e636 A650.1) (State.isArrayOf_alike hZ.alike A650.2.1) A650.2.2 ib651 (H650.at ib651 rfl) (g := (mkF m 167 #[.val (.ref fa), .val (.int ln)] [(.int (2 : Int32)), (.ref fa), (.int (2 : Int32)), (.ref b601), (.ref b601), (.ref b589), (.ref b589)])) rfl rfl (hb hby mk_d167) t k) ?_
              show OwnGo p e below (T636.setTop (mkF m 168 #[.val (.ref fa), .val (.int ln)] [(.int f2), (.int (2 : Int32)), (.ref b601), (.ref b601), (.ref b589), (.ref b589)])) _
              obtain ⟨c652, A652, q652, S652, M652, H652, U652⟩ := id V648
              obtain ⟨T653, h653, X653, e653, W653, st653⟩ := stC X636 hx hZ e636 A652 (j := (2 : Int32)) (inb_of S652 ⟨by decide, by decide⟩) (g := (mkF m 168 #[.val (.ref fa), .val (.int ln)] [(.int f2), (.int (2 : Int32)), (.ref b601), (.ref b601), (.ref b589), (.ref b589)])) rfl rfl (hb hby mk_d168)
              have O654 := O637.wr W653 ge602
              have KP655 := KP638.wr W653 (Or.inr sz603)
              have Zs656 := Nat.le_trans Zs639 (Keep.of_wr W653).1
              have CR657 := CR640.trans (CHr.wr W653 f647 CR640.1)
              have hk658 := Nat.le_trans hk641 (Keep.of_wr W653).1
              have f659 := f642.other W653 (Nat.ne_of_lt (Nat.lt_of_lt_of_le f597.lt (Nat.le_of_eq g601.symm)))
              have f660 := f643.wr W653
              have f661 := f644.other W653 (Or.inl (Nat.ne_of_lt (Nat.lt_of_lt_of_le A589.lt (Nat.le_of_eq g601.symm))))
              have f662 := f645.other W653 (Or.inl (Nat.ne_of_lt (Nat.lt_of_lt_of_le A589.lt (Nat.le_of_eq g601.symm))))
              have f663 := (Safe.wr W653 f647 CR640.1 f646)
              have f664 := (Safe.wr W653 f647 CR640.1 f647)
              have V665 : Arv Z h653 b601 k601 .char (5 : Int32) [(.int (nar .char f0)), (.int (nar .char f1)), (.int (nar .char f2)), (.int (0 : Int32)), (.int (0 : Int32))] (.int (0 : Int32)) := Arv.set A652 q652 S652 M652 H652 U652 (fits_nar_char _) W653 2 rfl (Nat.le_of_ble_eq_true rfl)
              have N666 := Fr.snoc X653 N649 ge602
              refine own_back st653 ?_
              show OwnGo p e below (T653.setTop (mkF m 169 #[.val (.ref fa), .val (.int ln)] [(.ref b601), (.ref b589), (.ref b589)])) _
              refine own_back (fun t k => XS.dup X653.here hx rfl (hb hby mk_d169) rfl rfl k) ?_
              show OwnGo p e below (T653.setTop (mkF m 170 #[.val (.ref fa), .val (.int ln)] [(.ref b601), (.ref b601), (.ref b589), (.ref b589)])) _
              refine own_back (fun t k => XS.iconst X653.here hx rfl (hb hby mk_d170) k) ?_
              show OwnGo p e below (T653.setTop (mkF m 171 #[.val (.ref fa), .val (.int ln)] [(.int (3 : Int32)), (.ref b601), (.ref b601), (.ref b589), (.ref b589)])) _
              refine own_back (fun t k => XS.aloadN X653.here hx rfl (hb hby mk_d171) rfl rfl k) ?_
              show OwnGo p e below (T653.setTop (mkF m 172 #[.val (.ref fa), .val (.int ln)] [(.ref fa), (.int (3 : Int32)), (.ref b601), (.ref b601), (.ref b589), (.ref b589)])) _
              refine own_back (fun t k => XS.iconst X653.here hx rfl (hb hby mk_d172) k) ?_
              show OwnGo p e below (T653.setTop (mkF m 173 #[.val (.ref fa), .val (.int ln)] [(.int (3 : Int32)), (.ref fa), (.int (3 : Int32)), (.ref b601), (.ref b601), (.ref b589), (.ref b589)])) _
              obtain ⟨c667, A667, q667, S667, M667, H667, U667⟩ := id f659
              have ib668 : ¬ ((3 : Int32) < 0 ∨ c667.slots.size ≤ ((3 : Int32)).toNatClampNeg) := (inb_of S667 ⟨by decide, by decide⟩)
              refine own_back (fun t k => X653.caload hx (j := (3 : Int32)) (v := (.int f3)) (own_hat e653 A667.1) (State.isArrayOf_alike hZ.alike A667.2.1) A667.2.2 ib668 (H667.at ib668 rfl) (g := (mkF m 173 #[.val (.ref fa), .val (.int ln)] [(.int (3 : Int32)), (.ref fa), (.int (3 : Int32)), (.ref b601), (.ref b601), (.ref b589), (.ref b589)])) rfl rfl (hb hby mk_d173) t k) ?_
              show OwnGo p e below (T653.setTop (mkF m 174 #[.val (.ref fa), .val (.int ln)] [(.int f3), (.int (3 : Int32)), (.ref b601), (.ref b601), (.ref b589), (.ref b589)])) _
              obtain ⟨c669, A669, q669, S669, M669, H669, U669⟩ := id V665
              obtain ⟨T670, h670, X670, e670, W670, st670⟩ := stC X653 hx hZ e653 A669 (j := (3 : Int32)) (inb_of S669 ⟨by decide, by decide⟩) (g := (mkF m 174 #[.val (.ref fa), .val (.int ln)] [(.int f3), (.int (3 : Int32)), (.ref b601), (.ref b601), (.ref b589), (.ref b589)])) rfl rfl (hb hby mk_d174)
              have O671 := O654.wr W670 ge602
              have KP672 := KP655.wr W670 (Or.inr sz603)
              have Zs673 := Nat.le_trans Zs656 (Keep.of_wr W670).1
              have CR674 := CR657.trans (CHr.wr W670 f664 CR657.1)
              have hk675 := Nat.le_trans hk658 (Keep.of_wr W670).1
              have f676 := f659.other W670 (Nat.ne_of_lt (Nat.lt_of_lt_of_le f597.lt (Nat.le_of_eq g601.symm)))
              have f677 := f660.wr W670
              have f678 := f661.other W670 (Or.inl (Nat.ne_of_lt (Nat.lt_of_lt_of_le A589.lt (Nat.le_of_eq g601.symm))))
              have f679 := f662.other W670 (Or.inl (Nat.ne_of_lt (Nat.lt_of_lt_of_le A589.lt (Nat.le_of_eq g601.symm))))
              have f680 := (Safe.wr W670 f664 CR657.1 f663)
              have f681 := (Safe.wr W670 f664 CR657.1 f664)
              have V682 : Arv Z h670 b601 k601 .char (5 : Int32) [(.int (nar .char f0)), (.int (nar .char f1)), (.int (nar .char f2)), (.int (nar .char f3)), (.int (0 : Int32))] (.int (0 : Int32)) := Arv.set A669 q669 S669 M669 H669 U669 (fits_nar_char _) W670 3 rfl (Nat.le_of_ble_eq_true rfl)
              have N683 := Fr.snoc X670 N666 ge602
              refine own_back st670 ?_
              show OwnGo p e below (T670.setTop (mkF m 175 #[.val (.ref fa), .val (.int ln)] [(.ref b601), (.ref b589), (.ref b589)])) _
              refine own_back (fun t k => XS.dup X670.here hx rfl (hb hby mk_d175) rfl rfl k) ?_
              show OwnGo p e below (T670.setTop (mkF m 176 #[.val (.ref fa), .val (.int ln)] [(.ref b601), (.ref b601), (.ref b589), (.ref b589)])) _
              refine own_back (fun t k => XS.iconst X670.here hx rfl (hb hby mk_d176) k) ?_
              show OwnGo p e below (T670.setTop (mkF m 177 #[.val (.ref fa), .val (.int ln)] [(.int (4 : Int32)), (.ref b601), (.ref b601), (.ref b589), (.ref b589)])) _
              refine own_back (fun t k => XS.aloadN X670.here hx rfl (hb hby mk_d177) rfl rfl k) ?_
              show OwnGo p e below (T670.setTop (mkF m 178 #[.val (.ref fa), .val (.int ln)] [(.ref fa), (.int (4 : Int32)), (.ref b601), (.ref b601), (.ref b589), (.ref b589)])) _
              refine own_back (fun t k => XS.iconst X670.here hx rfl (hb hby mk_d178) k) ?_
              show OwnGo p e below (T670.setTop (mkF m 179 #[.val (.ref fa), .val (.int ln)] [(.int (4 : Int32)), (.ref fa), (.int (4 : Int32)), (.ref b601), (.ref b601), (.ref b589), (.ref b589)])) _
              obtain ⟨c684, A684, q684, S684, M684, H684, U684⟩ := id f676
              have ib685 : ¬ ((4 : Int32) < 0 ∨ c684.slots.size ≤ ((4 : Int32)).toNatClampNeg) := (inb_of S684 ⟨by decide, by decide⟩)
              refine own_back (fun t k => X670.caload hx (j := (4 : Int32)) (v := (.int f4)) (own_hat e670 A684.1) (State.isArrayOf_alike hZ.alike A684.2.1) A684.2.2 ib685 (H684.at ib685 rfl) (g := (mkF m 179 #[.val (.ref fa), .val (.int ln)] [(.int (4 : Int32)), (.ref fa), (.int (4 : Int32)), (.ref b601), (.ref b601), (.ref b589), (.ref b589)])) rfl rfl (hb hby mk_d179) t k) ?_
              show OwnGo p e below (T670.setTop (mkF m 180 #[.val (.ref fa), .val (.int ln)] [(.int f4), (.int (4 : Int32)), (.ref b601), (.ref b601), (.ref b589), (.ref b589)])) _
              obtain ⟨c686, A686, q686, S686, M686, H686, U686⟩ := id V682
              obtain ⟨T687, h687, X687, e687, W687, st687⟩ := stC X670 hx hZ e670 A686 (j := (4 : Int32)) (inb_of S686 ⟨by decide, by decide⟩) (g := (mkF m 180 #[.val (.ref fa), .val (.int ln)] [(.int f4), (.int (4 : Int32)), (.ref b601), (.ref b601), (.ref b589), (.ref b589)])) rfl rfl (hb hby mk_d180)
              have O688 := O671.wr W687 ge602
              have KP689 := KP672.wr W687 (Or.inr sz603)
              have Zs690 := Nat.le_trans Zs673 (Keep.of_wr W687).1
              have CR691 := CR674.trans (CHr.wr W687 f681 CR674.1)
              have hk692 := Nat.le_trans hk675 (Keep.of_wr W687).1
              have f693 := f676.other W687 (Nat.ne_of_lt (Nat.lt_of_lt_of_le f597.lt (Nat.le_of_eq g601.symm)))
              have f694 := f677.wr W687
              have f695 := f678.other W687 (Or.inl (Nat.ne_of_lt (Nat.lt_of_lt_of_le A589.lt (Nat.le_of_eq g601.symm))))
              have f696 := f679.other W687 (Or.inl (Nat.ne_of_lt (Nat.lt_of_lt_of_le A589.lt (Nat.le_of_eq g601.symm))))
              have f697 := (Safe.wr W687 f681 CR674.1 f680)
              have f698 := (Safe.wr W687 f681 CR674.1 f681)
              have V699 : Arv Z h687 b601 k601 .char (5 : Int32) [(.int (nar .char f0)), (.int (nar .char f1)), (.int (nar .char f2)), (.int (nar .char f3)), (.int (nar .char f4))] (.int (0 : Int32)) := Arv.set A686 q686 S686 M686 H686 U686 (fits_nar_char _) W687 4 rfl (Nat.le_of_ble_eq_true rfl)
              have N700 := Fr.snoc X687 N683 ge602
              refine own_back st687 ?_
              show OwnGo p e below (T687.setTop (mkF m 181 #[.val (.ref fa), .val (.int ln)] [(.ref b601), (.ref b589), (.ref b589)])) _
              obtain ⟨_, _, ⟨T701, L701, k701, n701⟩, -, X701, ⟨Lc701, hQ701, l701, y701, z701⟩, st701⟩ := X687.specialBack hx (y := (⟨"java/lang/String", "<init>", "([C)V"⟩ : MethodName)) rfl hown (mvT hZ (hw _ (List.mem_of_getElem? (i := 8) rfl))) (mvT hZ (hw _ (List.mem_of_getElem? (i := 9) rfl))) (mvT hZ (hw _ (List.mem_of_getElem? (i := 10) rfl))) (by decide) (StrChars.Road.backV (W := 1) hZ (own_wV hw) (kI := 4) (hw _ (List.mem_of_getElem? (i := 6) rfl)) (cs := ([(nar .char f0), (nar .char f1), (nar .char f2), (nar .char f3), (nar .char f4)] : List Int32)) (bs := ([(nar .char f0), (nar .char f1), (nar .char f2), (nar .char f3), (nar .char f4)] : List Int32).map (fun c => c.toInt8.toInt32)) (n := 5) ge590 Zs690 f694 f695 f696 V699 (SC.ext O688.2) hcz rfl rfl (by decide) (by decide) (own_allS (own_hpn H0) (own_allS (own_hpn H1) (own_allS (own_hpn H2) (own_allS (own_hpn H3) (own_allS (own_hpn H4) own_all0))))) rfl (by decide) (by decide)) (g := (mkF m 181 #[.val (.ref fa), .val (.int ln)] [(.ref b601), (.ref b589), (.ref b589)])) rfl (by rw [hml]; rfl) (Steps.refl _) (a := b589) (argsL := [(.ref b601)]) (rest := [(.ref b589)]) (lenOf mk_pd0 rfl) rfl (by show 2 * 0 + _ ≤ _; exact Nat.le_of_eq rfl) (hb hby mk_d181) (fun _ _ => ⟨rfl, e687, Nat.le_of_ble_eq_true rfl, Nat.le_of_ble_eq_true rfl⟩)
              dsimp only [Pt.U, Pt.locs, Pt.cells, Pt.slots] at X701 l701 y701 z701 st701 hQ701
              subst l701 y701 z701
              obtain ⟨rfl, N701q, K701, EX701, C701, t701, kb701, gt701, zt701, nt701, FV701, AV701⟩ := hQ701
              refine own_seq st701 ?_
              have N701 := Fr.app N700 N701q
              have O702 := O688.keep K701 (allS ge590 all0)
              have KP703 := KP689.trans K701 (allS (Or.inr sz591) all0)
              have Zs704 := Nat.le_trans Zs690 K701.1
              have CR705 := CR691.trans (CHr.keep K701 (sfS f697 sf0) CR691.1)
              have hk706 := Nat.le_trans hk692 K701.1
              have f707 := f693.keep K701 (ninS (Nat.ne_of_lt (Nat.lt_of_lt_of_le VF.lt (Nat.le_of_eq g589.symm))) nin0)
              have f708 := f694.keep K701
              have f709 := (Safe.keep K701 (sfS f697 sf0) CR691.1 f697)
              have f710 := (Safe.keep K701 (sfS f697 sf0) CR691.1 f698)
              have f711 := V699.keep K701 (ninS (Ne.symm (Nat.ne_of_lt (Nat.lt_of_lt_of_le A589.lt (Nat.le_of_eq g601.symm)))) nin0)
              show OwnGo p e below (T701.setTop (mkF m 184 #[.val (.ref fa), .val (.int ln)] [(.ref b589)])) _
              refine own_retAW X701 hx Bd.notSynchronized Bd.returns rfl rfl hS0 hk706 hZ hEL (hh ▸ CR705) (hb hby mk_d184) rfl (Nat.le_of_ble_eq_true rfl) (Nat.le_of_ble_eq_true rfl) ?_
              exact ⟨b589, rfl, N701, own_ext KP703, by rw [own_mk, if_neg hc1_224, if_neg hc17_262, if_neg hc39_318, if_neg hc67_391, if_neg hc101_481, if_pos hc141_588]; exact (⟨t701, kb701, EX701, C701, FV701, AV701, Nat.le_of_ble_eq_true rfl⟩ : OwnStr Z T701.heap b589 [((nar .char f0)).toInt8.toInt32, ((nar .char f1)).toInt8.toInt32, ((nar .char f2)).toInt8.toInt32, ((nar .char f3)).toInt8.toInt32, ((nar .char f4)).toInt8.toInt32])⟩
            · refine own_back (fun t k => XS.icmpYes X0.here hx rfl (pc0 := 141) (pc' := 185) rfl (hb hby mk_d141) rfl (Jvm.Free.XT.ii_ne_t hc141_588) (by decide) (by decide) k) ?_
              show OwnGo p e below (s₁.setTop (mkF m 185 #[.val (.ref fa), .val (.int ln)] [])) _
              refine own_back (fun t k => XS.iloadN X0.here hx rfl (hb hby mk_d185) rfl k) ?_
              show OwnGo p e below (s₁.setTop (mkF m 186 #[.val (.ref fa), .val (.int ln)] [(.int ln)])) _
              refine own_back (fun t k => XS.bipush X0.here hx rfl (hb hby mk_d186) k) ?_
              show OwnGo p e below (s₁.setTop (mkF m 188 #[.val (.ref fa), .val (.int ln)] [(.int (6 : Int32)), (.int ln)])) _
              by_cases hc188_712 : ln = (6 : Int32)
              · refine own_back (fun t k => XS.icmpNo X0.here hx rfl (hb hby mk_d188) rfl (Jvm.Free.XT.ii_ne_f hc188_712) k) ?_
                show OwnGo p e below (s₁.setTop (mkF m 191 #[.val (.ref fa), .val (.int ln)] [])) _
                obtain ⟨T713, h713, X713, e713, E713, A713, D713, -, st713⟩ := newO X0 hx hZ hown (hw _ (List.mem_of_getElem? (i := 5) rfl)) (hw _ (List.mem_of_getElem? (i := 6) rfl)) (hw _ (List.mem_of_getElem? (i := 7) rfl)) e0 (g := (mkF m 191 #[.val (.ref fa), .val (.int ln)] [])) rfl (hb hby mk_d191) (Nat.le_of_ble_eq_true rfl) (Nat.le_of_ble_eq_true rfl)
                obtain ⟨b713, g713⟩ : ∃ z, z = h0.size := ⟨_, rfl⟩
                have ge714 : n0 ≤ b713 := Nat.le_trans Z0 (Nat.le_of_eq g713.symm)
                have sz715 : h0.size ≤ b713 := Nat.le_trans KP0.1 (Nat.le_of_eq g713.symm)
                rw [← g713] at A713 D713 st713
                have O716 := OL.ext E713
                have KP717 := KP0.ext E713
                have Zs718 := Nat.le_trans Z0 E713.1
                have CR719 := CR0.trans (CHr.ext E713 CR0.1)
                have hk720 := Nat.le_trans hk0 E713.1
                have f721 := VF.ext E713
                have F722 : Fld Z h713 b713 "java/lang/String" "value" "[B" .null := D713 (Or.inr (hw _ (List.mem_of_getElem? (i := 20) rfl))) (ty := (.array .byte)) (by decide)
                have F723 : Fld Z h713 b713 "java/lang/String" "coder" "B" (.int (0 : Int32)) := D713 (Or.inr (hw _ (List.mem_of_getElem? (i := 21) rfl))) (ty := .byte) (by decide)
                have sf724 := Safe.ext E713 CR0.1 (Safe.new (Nat.le_of_eq g713.symm))
                refine own_back st713 ?_
                show OwnGo p e below (T713.setTop (mkF m 194 #[.val (.ref fa), .val (.int ln)] [(.ref b713)])) _
                refine own_back (fun t k => XS.dup X713.here hx rfl (hb hby mk_d194) rfl rfl k) ?_
                show OwnGo p e below (T713.setTop (mkF m 195 #[.val (.ref fa), .val (.int ln)] [(.ref b713), (.ref b713)])) _
                refine own_back (fun t k => XS.bipush X713.here hx rfl (hb hby mk_d195) k) ?_
                show OwnGo p e below (T713.setTop (mkF m 197 #[.val (.ref fa), .val (.int ln)] [(.int (6 : Int32)), (.ref b713), (.ref b713)])) _
                obtain ⟨T725, h725, k725, X725, e725, E725, A725, st725⟩ := newP X713 hx hZ (hw _ (List.mem_of_getElem? (i := 0) rfl)) e713 (g := (mkF m 197 #[.val (.ref fa), .val (.int ln)] [(.int (6 : Int32)), (.ref b713), (.ref b713)])) rfl (hb hby mk_d197) rfl (by decide) (cap := 6) (by decide) (by decide) (Nat.le_of_ble_eq_true rfl) (Nat.le_of_ble_eq_true rfl)
                obtain ⟨b725, g725⟩ : ∃ z, z = h713.size := ⟨_, rfl⟩
                have ge726 : n0 ≤ b725 := Nat.le_trans Zs718 (Nat.le_of_eq g725.symm)
                have sz727 : h0.size ≤ b725 := Nat.le_trans KP717.1 (Nat.le_of_eq g725.symm)
                rw [← g725] at A725 st725
                have O728 := O716.ext E725
                have KP729 := KP717.ext E725
                have Zs730 := Nat.le_trans Zs718 E725.1
                have CR731 := CR719.trans (CHr.ext E725 CR719.1)
                have hk732 := Nat.le_trans hk720 E725.1
                have f733 := f721.ext E725
                have f734 := A713.ext E725
                have f735 := F722.ext E725
                have f736 := F723.ext E725
                have f737 := (Safe.ext E725 CR719.1 sf724)
                have V738 : Arv Z h725 b725 k725 .char (6 : Int32) [(.int (0 : Int32)), (.int (0 : Int32)), (.int (0 : Int32)), (.int (0 : Int32)), (.int (0 : Int32)), (.int (0 : Int32))] (.int (0 : Int32)) := (Arv.new A725 (by decide)).pad (pad_rep [] (.int (0 : Int32)) 6)
                have sf739 := Safe.ext E725 CR719.1 (Safe.new (Nat.le_of_eq g725.symm))
                refine own_back st725 ?_
                show OwnGo p e below (T725.setTop (mkF m 199 #[.val (.ref fa), .val (.int ln)] [(.ref b725), (.ref b713), (.ref b713)])) _
                refine own_back (fun t k => XS.dup X725.here hx rfl (hb hby mk_d199) rfl rfl k) ?_
                show OwnGo p e below (T725.setTop (mkF m 200 #[.val (.ref fa), .val (.int ln)] [(.ref b725), (.ref b725), (.ref b713), (.ref b713)])) _
                refine own_back (fun t k => XS.iconst X725.here hx rfl (hb hby mk_d200) k) ?_
                show OwnGo p e below (T725.setTop (mkF m 201 #[.val (.ref fa), .val (.int ln)] [(.int (0 : Int32)), (.ref b725), (.ref b725), (.ref b713), (.ref b713)])) _
                refine own_back (fun t k => XS.aloadN X725.here hx rfl (hb hby mk_d201) rfl rfl k) ?_
                show OwnGo p e below (T725.setTop (mkF m 202 #[.val (.ref fa), .val (.int ln)] [(.ref fa), (.int (0 : Int32)), (.ref b725), (.ref b725), (.ref b713), (.ref b713)])) _
                refine own_back (fun t k => XS.iconst X725.here hx rfl (hb hby mk_d202) k) ?_
                show OwnGo p e below (T725.setTop (mkF m 203 #[.val (.ref fa), .val (.int ln)] [(.int (0 : Int32)), (.ref fa), (.int (0 : Int32)), (.ref b725), (.ref b725), (.ref b713), (.ref b713)])) _
                obtain ⟨c740, A740, q740, S740, M740, H740, U740⟩ := id f733
                have ib741 : ¬ ((0 : Int32) < 0 ∨ c740.slots.size ≤ ((0 : Int32)).toNatClampNeg) := (inb_of S740 ⟨by decide, by decide⟩)
                refine own_back (fun t k => X725.caload hx (j := (0 : Int32)) (v := (.int f0)) (own_hat e725 A740.1) (State.isArrayOf_alike hZ.alike A740.2.1) A740.2.2 ib741 (H740.at ib741 rfl) (g := (mkF m 203 #[.val (.ref fa), .val (.int ln)] [(.int (0 : Int32)), (.ref fa), (.int (0 : Int32)), (.ref b725), (.ref b725), (.ref b713), (.ref b713)])) rfl rfl (hb hby mk_d203) t k) ?_
                show OwnGo p e below (T725.setTop (mkF m 204 #[.val (.ref fa), .val (.int ln)] [(.int f0), (.int (0 : Int32)), (.ref b725), (.ref b725), (.ref b713), (.ref b713)])) _
                obtain ⟨c742, A742, q742, S742, M742, H742, U742⟩ := id V738
                obtain ⟨T743, h743, X743, e743, W743, st743⟩ := stC X725 hx hZ e725 A742 (j := (0 : Int32)) (inb_of S742 ⟨by decide, by decide⟩) (g := (mkF m 204 #[.val (.ref fa), .val (.int ln)] [(.int f0), (.int (0 : Int32)), (.ref b725), (.ref b725), (.ref b713), (.ref b713)])) rfl rfl (hb hby mk_d204)
                have O744 := O728.wr W743 ge726
                have KP745 := KP729.wr W743 (Or.inr sz727)
                have Zs746 := Nat.le_trans Zs730 (Keep.of_wr W743).1
                have CR747 := CR731.trans (CHr.wr W743 sf739 CR731.1)
                have hk748 := Nat.le_trans hk732 (Keep.of_wr W743).1
                have f749 := f733.other W743 (Nat.ne_of_lt (Nat.lt_of_lt_of_le f721.lt (Nat.le_of_eq g725.symm)))
                have f750 := f734.wr W743
                have f751 := f735.other W743 (Or.inl (Nat.ne_of_lt (Nat.lt_of_lt_of_le A713.lt (Nat.le_of_eq g725.symm))))
                have f752 := f736.other W743 (Or.inl (Nat.ne_of_lt (Nat.lt_of_lt_of_le A713.lt (Nat.le_of_eq g725.symm))))
                have f753 := (Safe.wr W743 sf739 CR731.1 f737)
                have f754 := (Safe.wr W743 sf739 CR731.1 sf739)
                have V755 : Arv Z h743 b725 k725 .char (6 : Int32) [(.int (nar .char f0)), (.int (0 : Int32)), (.int (0 : Int32)), (.int (0 : Int32)), (.int (0 : Int32)), (.int (0 : Int32))] (.int (0 : Int32)) := Arv.set A742 q742 S742 M742 H742 U742 (fits_nar_char _) W743 0 rfl (Nat.le_of_ble_eq_true rfl)
                have N756 := Fr.snoc X743 N0 ge726
                refine own_back st743 ?_
                show OwnGo p e below (T743.setTop (mkF m 205 #[.val (.ref fa), .val (.int ln)] [(.ref b725), (.ref b713), (.ref b713)])) _
                refine own_back (fun t k => XS.dup X743.here hx rfl (hb hby mk_d205) rfl rfl k) ?_
                show OwnGo p e below (T743.setTop (mkF m 206 #[.val (.ref fa), .val (.int ln)] [(.ref b725), (.ref b725), (.ref b713), (.ref b713)])) _
                refine own_back (fun t k => XS.iconst X743.here hx rfl (hb hby mk_d206) k) ?_
                show OwnGo p e below (T743.setTop (mkF m 207 #[.val (.ref fa), .val (.int ln)] [(.int (1 : Int32)), (.ref b725), (.ref b725), (.ref b713), (.ref b713)])) _
                refine own_back (fun t k => XS.aloadN X743.here hx rfl (hb hby mk_d207) rfl rfl k) ?_
                show OwnGo p e below (T743.setTop (mkF m 208 #[.val (.ref fa), .val (.int ln)] [(.ref fa), (.int (1 : Int32)), (.ref b725), (.ref b725), (.ref b713), (.ref b713)])) _
                refine own_back (fun t k => XS.iconst X743.here hx rfl (hb hby mk_d208) k) ?_
                show OwnGo p e below (T743.setTop (mkF m 209 #[.val (.ref fa), .val (.int ln)] [(.int (1 : Int32)), (.ref fa), (.int (1 : Int32)), (.ref b725), (.ref b725), (.ref b713), (.ref b713)])) _
                obtain ⟨c757, A757, q757, S757, M757, H757, U757⟩ := id f749
                have ib758 : ¬ ((1 : Int32) < 0 ∨ c757.slots.size ≤ ((1 : Int32)).toNatClampNeg) := (inb_of S757 ⟨by decide, by decide⟩)
                refine own_back (fun t k => X743.caload hx (j := (1 : Int32)) (v := (.int f1)) (own_hat e743 A757.1) (State.isArrayOf_alike hZ.alike A757.2.1) A757.2.2 ib758 (H757.at ib758 rfl) (g := (mkF m 209 #[.val (.ref fa), .val (.int ln)] [(.int (1 : Int32)), (.ref fa), (.int (1 : Int32)), (.ref b725), (.ref b725), (.ref b713), (.ref b713)])) rfl rfl (hb hby mk_d209) t k) ?_
                show OwnGo p e below (T743.setTop (mkF m 210 #[.val (.ref fa), .val (.int ln)] [(.int f1), (.int (1 : Int32)), (.ref b725), (.ref b725), (.ref b713), (.ref b713)])) _
                obtain ⟨c759, A759, q759, S759, M759, H759, U759⟩ := id V755
                obtain ⟨T760, h760, X760, e760, W760, st760⟩ := stC X743 hx hZ e743 A759 (j := (1 : Int32)) (inb_of S759 ⟨by decide, by decide⟩) (g := (mkF m 210 #[.val (.ref fa), .val (.int ln)] [(.int f1), (.int (1 : Int32)), (.ref b725), (.ref b725), (.ref b713), (.ref b713)])) rfl rfl (hb hby mk_d210)
                have O761 := O744.wr W760 ge726
                have KP762 := KP745.wr W760 (Or.inr sz727)
                have Zs763 := Nat.le_trans Zs746 (Keep.of_wr W760).1
                have CR764 := CR747.trans (CHr.wr W760 f754 CR747.1)
                have hk765 := Nat.le_trans hk748 (Keep.of_wr W760).1
                have f766 := f749.other W760 (Nat.ne_of_lt (Nat.lt_of_lt_of_le f721.lt (Nat.le_of_eq g725.symm)))
                have f767 := f750.wr W760
                have f768 := f751.other W760 (Or.inl (Nat.ne_of_lt (Nat.lt_of_lt_of_le A713.lt (Nat.le_of_eq g725.symm))))
                have f769 := f752.other W760 (Or.inl (Nat.ne_of_lt (Nat.lt_of_lt_of_le A713.lt (Nat.le_of_eq g725.symm))))
                have f770 := (Safe.wr W760 f754 CR747.1 f753)
                have f771 := (Safe.wr W760 f754 CR747.1 f754)
                have V772 : Arv Z h760 b725 k725 .char (6 : Int32) [(.int (nar .char f0)), (.int (nar .char f1)), (.int (0 : Int32)), (.int (0 : Int32)), (.int (0 : Int32)), (.int (0 : Int32))] (.int (0 : Int32)) := Arv.set A759 q759 S759 M759 H759 U759 (fits_nar_char _) W760 1 rfl (Nat.le_of_ble_eq_true rfl)
                have N773 := Fr.snoc X760 N756 ge726
                refine own_back st760 ?_
                show OwnGo p e below (T760.setTop (mkF m 211 #[.val (.ref fa), .val (.int ln)] [(.ref b725), (.ref b713), (.ref b713)])) _
                refine own_back (fun t k => XS.dup X760.here hx rfl (hb hby mk_d211) rfl rfl k) ?_
                show OwnGo p e below (T760.setTop (mkF m 212 #[.val (.ref fa), .val (.int ln)] [(.ref b725), (.ref b725), (.ref b713), (.ref b713)])) _
                refine own_back (fun t k => XS.iconst X760.here hx rfl (hb hby mk_d212) k) ?_
                show OwnGo p e below (T760.setTop (mkF m 213 #[.val (.ref fa), .val (.int ln)] [(.int (2 : Int32)), (.ref b725), (.ref b725), (.ref b713), (.ref b713)])) _
                refine own_back (fun t k => XS.aloadN X760.here hx rfl (hb hby mk_d213) rfl rfl k) ?_
                show OwnGo p e below (T760.setTop (mkF m 214 #[.val (.ref fa), .val (.int ln)] [(.ref fa), (.int (2 : Int32)), (.ref b725), (.ref b725), (.ref b713), (.ref b713)])) _
                refine own_back (fun t k => XS.iconst X760.here hx rfl (hb hby mk_d214) k) ?_
                show OwnGo p e below (T760.setTop (mkF m 215 #[.val (.ref fa), .val (.int ln)] [(.int (2 : Int32)), (.ref fa), (.int (2 : Int32)), (.ref b725), (.ref b725), (.ref b713), (.ref b713)])) _
                obtain ⟨c774, A774, q774, S774, M774, H774, U774⟩ := id f766
                have ib775 : ¬ ((2 : Int32) < 0 ∨ c774.slots.size ≤ ((2 : Int32)).toNatClampNeg) := (inb_of S774 ⟨by decide, by decide⟩)
                refine own_back (fun t k => X760.caload hx (j := (2 : Int32)) (v := (.int f2)) (own_hat e760 A774.1) (State.isArrayOf_alike hZ.alike A774.2.1) A774.2.2 ib775 (H774.at ib775 rfl) (g := (mkF m 215 #[.val (.ref fa), .val (.int ln)] [(.int (2 : Int32)), (.ref fa), (.int (2 : Int32)), (.ref b725), (.ref b725), (.ref b713), (.ref b713)])) rfl rfl (hb hby mk_d215) t k) ?_
                show OwnGo p e below (T760.setTop (mkF m 216 #[.val (.ref fa), .val (.int ln)] [(.int f2), (.int (2 : Int32)), (.ref b725), (.ref b725), (.ref b713), (.ref b713)])) _
                obtain ⟨c776, A776, q776, S776, M776, H776, U776⟩ := id V772
                obtain ⟨T777, h777, X777, e777, W777, st777⟩ := stC X760 hx hZ e760 A776 (j := (2 : Int32)) (inb_of S776 ⟨by decide, by decide⟩) (g := (mkF m 216 #[.val (.ref fa), .val (.int ln)] [(.int f2), (.int (2 : Int32)), (.ref b725), (.ref b725), (.ref b713), (.ref b713)])) rfl rfl (hb hby mk_d216)
                have O778 := O761.wr W777 ge726
                have KP779 := KP762.wr W777 (Or.inr sz727)
                have Zs780 := Nat.le_trans Zs763 (Keep.of_wr W777).1
                have CR781 := CR764.trans (CHr.wr W777 f771 CR764.1)
                have hk782 := Nat.le_trans hk765 (Keep.of_wr W777).1
                have f783 := f766.other W777 (Nat.ne_of_lt (Nat.lt_of_lt_of_le f721.lt (Nat.le_of_eq g725.symm)))
                have f784 := f767.wr W777
                have f785 := f768.other W777 (Or.inl (Nat.ne_of_lt (Nat.lt_of_lt_of_le A713.lt (Nat.le_of_eq g725.symm))))
                have f786 := f769.other W777 (Or.inl (Nat.ne_of_lt (Nat.lt_of_lt_of_le A713.lt (Nat.le_of_eq g725.symm))))
                have f787 := (Safe.wr W777 f771 CR764.1 f770)
                have f788 := (Safe.wr W777 f771 CR764.1 f771)
                have V789 : Arv Z h777 b725 k725 .char (6 : Int32) [(.int (nar .char f0)), (.int (nar .char f1)), (.int (nar .char f2)), (.int (0 : Int32)), (.int (0 : Int32)), (.int (0 : Int32))] (.int (0 : Int32)) := Arv.set A776 q776 S776 M776 H776 U776 (fits_nar_char _) W777 2 rfl (Nat.le_of_ble_eq_true rfl)
                have N790 := Fr.snoc X777 N773 ge726
                refine own_back st777 ?_
                show OwnGo p e below (T777.setTop (mkF m 217 #[.val (.ref fa), .val (.int ln)] [(.ref b725), (.ref b713), (.ref b713)])) _
                refine own_back (fun t k => XS.dup X777.here hx rfl (hb hby mk_d217) rfl rfl k) ?_
                show OwnGo p e below (T777.setTop (mkF m 218 #[.val (.ref fa), .val (.int ln)] [(.ref b725), (.ref b725), (.ref b713), (.ref b713)])) _
                refine own_back (fun t k => XS.iconst X777.here hx rfl (hb hby mk_d218) k) ?_
                show OwnGo p e below (T777.setTop (mkF m 219 #[.val (.ref fa), .val (.int ln)] [(.int (3 : Int32)), (.ref b725), (.ref b725), (.ref b713), (.ref b713)])) _
                refine own_back (fun t k => XS.aloadN X777.here hx rfl (hb hby mk_d219) rfl rfl k) ?_
                show OwnGo p e below (T777.setTop (mkF m 220 #[.val (.ref fa), .val (.int ln)] [(.ref fa), (.int (3 : Int32)), (.ref b725), (.ref b725), (.ref b713), (.ref b713)])) _
                refine own_back (fun t k => XS.iconst X777.here hx rfl (hb hby mk_d220) k) ?_
                show OwnGo p e below (T777.setTop (mkF m 221 #[.val (.ref fa), .val (.int ln)] [(.int (3 : Int32)), (.ref fa), (.int (3 : Int32)), (.ref b725), (.ref b725), (.ref b713), (.ref b713)])) _
                obtain ⟨c791, A791, q791, S791, M791, H791, U791⟩ := id f783
                have ib792 : ¬ ((3 : Int32) < 0 ∨ c791.slots.size ≤ ((3 : Int32)).toNatClampNeg) := (inb_of S791 ⟨by decide, by decide⟩)
                refine own_back (fun t k => X777.caload hx (j := (3 : Int32)) (v := (.int f3)) (own_hat e777 A791.1) (State.isArrayOf_alike hZ.alike A791.2.1) A791.2.2 ib792 (H791.at ib792 rfl) (g := (mkF m 221 #[.val (.ref fa), .val (.int ln)] [(.int (3 : Int32)), (.ref fa), (.int (3 : Int32)), (.ref b725), (.ref b725), (.ref b713), (.ref b713)])) rfl rfl (hb hby mk_d221) t k) ?_
                show OwnGo p e below (T777.setTop (mkF m 222 #[.val (.ref fa), .val (.int ln)] [(.int f3), (.int (3 : Int32)), (.ref b725), (.ref b725), (.ref b713), (.ref b713)])) _
                obtain ⟨c793, A793, q793, S793, M793, H793, U793⟩ := id V789
                obtain ⟨T794, h794, X794, e794, W794, st794⟩ := stC X777 hx hZ e777 A793 (j := (3 : Int32)) (inb_of S793 ⟨by decide, by decide⟩) (g := (mkF m 222 #[.val (.ref fa), .val (.int ln)] [(.int f3), (.int (3 : Int32)), (.ref b725), (.ref b725), (.ref b713), (.ref b713)])) rfl rfl (hb hby mk_d222)
                have O795 := O778.wr W794 ge726
                have KP796 := KP779.wr W794 (Or.inr sz727)
                have Zs797 := Nat.le_trans Zs780 (Keep.of_wr W794).1
                have CR798 := CR781.trans (CHr.wr W794 f788 CR781.1)
                have hk799 := Nat.le_trans hk782 (Keep.of_wr W794).1
                have f800 := f783.other W794 (Nat.ne_of_lt (Nat.lt_of_lt_of_le f721.lt (Nat.le_of_eq g725.symm)))
                have f801 := f784.wr W794
                have f802 := f785.other W794 (Or.inl (Nat.ne_of_lt (Nat.lt_of_lt_of_le A713.lt (Nat.le_of_eq g725.symm))))
                have f803 := f786.other W794 (Or.inl (Nat.ne_of_lt (Nat.lt_of_lt_of_le A713.lt (Nat.le_of_eq g725.symm))))
                have f804 := (Safe.wr W794 f788 CR781.1 f787)
                have f805 := (Safe.wr W794 f788 CR781.1 f788)
                have V806 : Arv Z h794 b725 k725 .char (6 : Int32) [(.int (nar .char f0)), (.int (nar .char f1)), (.int (nar .char f2)), (.int (nar .char f3)), (.int (0 : Int32)), (.int (0 : Int32))] (.int (0 : Int32)) := Arv.set A793 q793 S793 M793 H793 U793 (fits_nar_char _) W794 3 rfl (Nat.le_of_ble_eq_true rfl)
                have N807 := Fr.snoc X794 N790 ge726
                refine own_back st794 ?_
                show OwnGo p e below (T794.setTop (mkF m 223 #[.val (.ref fa), .val (.int ln)] [(.ref b725), (.ref b713), (.ref b713)])) _
                refine own_back (fun t k => XS.dup X794.here hx rfl (hb hby mk_d223) rfl rfl k) ?_
                show OwnGo p e below (T794.setTop (mkF m 224 #[.val (.ref fa), .val (.int ln)] [(.ref b725), (.ref b725), (.ref b713), (.ref b713)])) _
                refine own_back (fun t k => XS.iconst X794.here hx rfl (hb hby mk_d224) k) ?_
                show OwnGo p e below (T794.setTop (mkF m 225 #[.val (.ref fa), .val (.int ln)] [(.int (4 : Int32)), (.ref b725), (.ref b725), (.ref b713), (.ref b713)])) _
                refine own_back (fun t k => XS.aloadN X794.here hx rfl (hb hby mk_d225) rfl rfl k) ?_
                show OwnGo p e below (T794.setTop (mkF m 226 #[.val (.ref fa), .val (.int ln)] [(.ref fa), (.int (4 : Int32)), (.ref b725), (.ref b725), (.ref b713), (.ref b713)])) _
                refine own_back (fun t k => XS.iconst X794.here hx rfl (hb hby mk_d226) k) ?_
                show OwnGo p e below (T794.setTop (mkF m 227 #[.val (.ref fa), .val (.int ln)] [(.int (4 : Int32)), (.ref fa), (.int (4 : Int32)), (.ref b725), (.ref b725), (.ref b713), (.ref b713)])) _
                obtain ⟨c808, A808, q808, S808, M808, H808, U808⟩ := id f800
                have ib809 : ¬ ((4 : Int32) < 0 ∨ c808.slots.size ≤ ((4 : Int32)).toNatClampNeg) := (inb_of S808 ⟨by decide, by decide⟩)
                refine own_back (fun t k => X794.caload hx (j := (4 : Int32)) (v := (.int f4)) (own_hat e794 A808.1) (State.isArrayOf_alike hZ.alike A808.2.1) A808.2.2 ib809 (H808.at ib809 rfl) (g := (mkF m 227 #[.val (.ref fa), .val (.int ln)] [(.int (4 : Int32)), (.ref fa), (.int (4 : Int32)), (.ref b725), (.ref b725), (.ref b713), (.ref b713)])) rfl rfl (hb hby mk_d227) t k) ?_
                show OwnGo p e below (T794.setTop (mkF m 228 #[.val (.ref fa), .val (.int ln)] [(.int f4), (.int (4 : Int32)), (.ref b725), (.ref b725), (.ref b713), (.ref b713)])) _
                obtain ⟨c810, A810, q810, S810, M810, H810, U810⟩ := id V806
                obtain ⟨T811, h811, X811, e811, W811, st811⟩ := stC X794 hx hZ e794 A810 (j := (4 : Int32)) (inb_of S810 ⟨by decide, by decide⟩) (g := (mkF m 228 #[.val (.ref fa), .val (.int ln)] [(.int f4), (.int (4 : Int32)), (.ref b725), (.ref b725), (.ref b713), (.ref b713)])) rfl rfl (hb hby mk_d228)
                have O812 := O795.wr W811 ge726
                have KP813 := KP796.wr W811 (Or.inr sz727)
                have Zs814 := Nat.le_trans Zs797 (Keep.of_wr W811).1
                have CR815 := CR798.trans (CHr.wr W811 f805 CR798.1)
                have hk816 := Nat.le_trans hk799 (Keep.of_wr W811).1
                have f817 := f800.other W811 (Nat.ne_of_lt (Nat.lt_of_lt_of_le f721.lt (Nat.le_of_eq g725.symm)))
                have f818 := f801.wr W811
                have f819 := f802.other W811 (Or.inl (Nat.ne_of_lt (Nat.lt_of_lt_of_le A713.lt (Nat.le_of_eq g725.symm))))
                have f820 := f803.other W811 (Or.inl (Nat.ne_of_lt (Nat.lt_of_lt_of_le A713.lt (Nat.le_of_eq g725.symm))))
                have f821 := (Safe.wr W811 f805 CR798.1 f804)
                have f822 := (Safe.wr W811 f805 CR798.1 f805)
                have V823 : Arv Z h811 b725 k725 .char (6 : Int32) [(.int (nar .char f0)), (.int (nar .char f1)), (.int (nar .char f2)), (.int (nar .char f3)), (.int (nar .char f4)), (.int (0 : Int32))] (.int (0 : Int32)) := Arv.set A810 q810 S810 M810 H810 U810 (fits_nar_char _) W811 4 rfl (Nat.le_of_ble_eq_true rfl)
                have N824 := Fr.snoc X811 N807 ge726
                refine own_back st811 ?_
                show OwnGo p e below (T811.setTop (mkF m 229 #[.val (.ref fa), .val (.int ln)] [(.ref b725), (.ref b713), (.ref b713)])) _
                refine own_back (fun t k => XS.dup X811.here hx rfl (hb hby mk_d229) rfl rfl k) ?_
                show OwnGo p e below (T811.setTop (mkF m 230 #[.val (.ref fa), .val (.int ln)] [(.ref b725), (.ref b725), (.ref b713), (.ref b713)])) _
                refine own_back (fun t k => XS.iconst X811.here hx rfl (hb hby mk_d230) k) ?_
                show OwnGo p e below (T811.setTop (mkF m 231 #[.val (.ref fa), .val (.int ln)] [(.int (5 : Int32)), (.ref b725), (.ref b725), (.ref b713), (.ref b713)])) _
                refine own_back (fun t k => XS.aloadN X811.here hx rfl (hb hby mk_d231) rfl rfl k) ?_
                show OwnGo p e below (T811.setTop (mkF m 232 #[.val (.ref fa), .val (.int ln)] [(.ref fa), (.int (5 : Int32)), (.ref b725), (.ref b725), (.ref b713), (.ref b713)])) _
                refine own_back (fun t k => XS.iconst X811.here hx rfl (hb hby mk_d232) k) ?_
                show OwnGo p e below (T811.setTop (mkF m 233 #[.val (.ref fa), .val (.int ln)] [(.int (5 : Int32)), (.ref fa), (.int (5 : Int32)), (.ref b725), (.ref b725), (.ref b713), (.ref b713)])) _
                obtain ⟨c825, A825, q825, S825, M825, H825, U825⟩ := id f817
                have ib826 : ¬ ((5 : Int32) < 0 ∨ c825.slots.size ≤ ((5 : Int32)).toNatClampNeg) := (inb_of S825 ⟨by decide, by decide⟩)
                refine own_back (fun t k => X811.caload hx (j := (5 : Int32)) (v := (.int f5)) (own_hat e811 A825.1) (State.isArrayOf_alike hZ.alike A825.2.1) A825.2.2 ib826 (H825.at ib826 rfl) (g := (mkF m 233 #[.val (.ref fa), .val (.int ln)] [(.int (5 : Int32)), (.ref fa), (.int (5 : Int32)), (.ref b725), (.ref b725), (.ref b713), (.ref b713)])) rfl rfl (hb hby mk_d233) t k) ?_
                show OwnGo p e below (T811.setTop (mkF m 234 #[.val (.ref fa), .val (.int ln)] [(.int f5), (.int (5 : Int32)), (.ref b725), (.ref b725), (.ref b713), (.ref b713)])) _
                obtain ⟨c827, A827, q827, S827, M827, H827, U827⟩ := id V823
                obtain ⟨T828, h828, X828, e828, W828, st828⟩ := stC X811 hx hZ e811 A827 (j := (5 : Int32)) (inb_of S827 ⟨by decide, by decide⟩) (g := (mkF m 234 #[.val (.ref fa), .val (.int ln)] [(.int f5), (.int (5 : Int32)), (.ref b725), (.ref b725), (.ref b713), (.ref b713)])) rfl rfl (hb hby mk_d234)
                have O829 := O812.wr W828 ge726
                have KP830 := KP813.wr W828 (Or.inr sz727)
                have Zs831 := Nat.le_trans Zs814 (Keep.of_wr W828).1
                have CR832 := CR815.trans (CHr.wr W828 f822 CR815.1)
                have hk833 := Nat.le_trans hk816 (Keep.of_wr W828).1
                have f834 := f817.other W828 (Nat.ne_of_lt (Nat.lt_of_lt_of_le f721.lt (Nat.le_of_eq g725.symm)))
                have f835 := f818.wr W828
                have f836 := f819.other W828 (Or.inl (Nat.ne_of_lt (Nat.lt_of_lt_of_le A713.lt (Nat.le_of_eq g725.symm))))
                have f837 := f820.other W828 (Or.inl (Nat.ne_of_lt (Nat.lt_of_lt_of_le A713.lt (Nat.le_of_eq g725.symm))))
                have f838 := (Safe.wr W828 f822 CR815.1 f821)
                have f839 := (Safe.wr W828 f822 CR815.1 f822)
                have V840 : Arv Z h828 b725 k725 .char (6 : Int32) [(.int (nar .char f0)), (.int (nar .char f1)), (.int (nar .char f2)), (.int (nar .char f3)), (.int (nar .char f4)), (.int (nar .char f5))] (.int (0 : Int32)) := Arv.set A827 q827 S827 M827 H827 U827 (fits_nar_char _) W828 5 rfl (Nat.le_of_ble_eq_true rfl)
                have N841 := Fr.snoc X828 N824 ge726
                refine own_back st828 ?_
                show OwnGo p e below (T828.setTop (mkF m 235 #[.val (.ref fa), .val (.int ln)] [(.ref b725), (.ref b713), (.ref b713)])) _
                obtain ⟨_, _, ⟨T842, L842, k842, n842⟩, -, X842, ⟨Lc842, hQ842, l842, y842, z842⟩, st842⟩ := X828.specialBack hx (y := (⟨"java/lang/String", "<init>", "([C)V"⟩ : MethodName)) rfl hown (mvT hZ (hw _ (List.mem_of_getElem? (i := 8) rfl))) (mvT hZ (hw _ (List.mem_of_getElem? (i := 9) rfl))) (mvT hZ (hw _ (List.mem_of_getElem? (i := 10) rfl))) (by decide) (StrChars.Road.backV (W := 1) hZ (own_wV hw) (kI := 4) (hw _ (List.mem_of_getElem? (i := 6) rfl)) (cs := ([(nar .char f0), (nar .char f1), (nar .char f2), (nar .char f3), (nar .char f4), (nar .char f5)] : List Int32)) (bs := ([(nar .char f0), (nar .char f1), (nar .char f2), (nar .char f3), (nar .char f4), (nar .char f5)] : List Int32).map (fun c => c.toInt8.toInt32)) (n := 6) ge714 Zs831 f835 f836 f837 V840 (SC.ext O829.2) hcz rfl rfl (by decide) (by decide) (own_allS (own_hpn H0) (own_allS (own_hpn H1) (own_allS (own_hpn H2) (own_allS (own_hpn H3) (own_allS (own_hpn H4) (own_allS (own_hpn H5) own_all0)))))) rfl (by decide) (by decide)) (g := (mkF m 235 #[.val (.ref fa), .val (.int ln)] [(.ref b725), (.ref b713), (.ref b713)])) rfl (by rw [hml]; rfl) (Steps.refl _) (a := b713) (argsL := [(.ref b725)]) (rest := [(.ref b713)]) (lenOf mk_pd0 rfl) rfl (by show 2 * 0 + _ ≤ _; exact Nat.le_of_eq rfl) (hb hby mk_d235) (fun _ _ => ⟨rfl, e828, Nat.le_of_ble_eq_true rfl, Nat.le_of_ble_eq_true rfl⟩)
                dsimp only [Pt.U, Pt.locs, Pt.cells, Pt.slots] at X842 l842 y842 z842 st842 hQ842
                subst l842 y842 z842
                obtain ⟨rfl, N842q, K842, EX842, C842, t842, kb842, gt842, zt842, nt842, FV842, AV842⟩ := hQ842
                refine own_seq st842 ?_
                have N842 := Fr.app N841 N842q
                have O843 := O829.keep K842 (allS ge714 all0)
                have KP844 := KP830.trans K842 (allS (Or.inr sz715) all0)
                have Zs845 := Nat.le_trans Zs831 K842.1
                have CR846 := CR832.trans (CHr.keep K842 (sfS f838 sf0) CR832.1)
                have hk847 := Nat.le_trans hk833 K842.1
                have f848 := f834.keep K842 (ninS (Nat.ne_of_lt (Nat.lt_of_lt_of_le VF.lt (Nat.le_of_eq g713.symm))) nin0)
                have f849 := f835.keep K842
                have f850 := (Safe.keep K842 (sfS f838 sf0) CR832.1 f838)
                have f851 := (Safe.keep K842 (sfS f838 sf0) CR832.1 f839)
                have f852 := V840.keep K842 (ninS (Ne.symm (Nat.ne_of_lt (Nat.lt_of_lt_of_le A713.lt (Nat.le_of_eq g725.symm)))) nin0)
                show OwnGo p e below (T842.setTop (mkF m 238 #[.val (.ref fa), .val (.int ln)] [(.ref b713)])) _
                refine own_retAW X842 hx Bd.notSynchronized Bd.returns rfl rfl hS0 hk847 hZ hEL (hh ▸ CR846) (hb hby mk_d238) rfl (Nat.le_of_ble_eq_true rfl) (Nat.le_of_ble_eq_true rfl) ?_
                exact ⟨b713, rfl, N842, own_ext KP844, by rw [own_mk, if_neg hc1_224, if_neg hc17_262, if_neg hc39_318, if_neg hc67_391, if_neg hc101_481, if_neg hc141_588, if_pos hc188_712]; exact (⟨t842, kb842, EX842, C842, FV842, AV842, Nat.le_of_ble_eq_true rfl⟩ : OwnStr Z T842.heap b713 [((nar .char f0)).toInt8.toInt32, ((nar .char f1)).toInt8.toInt32, ((nar .char f2)).toInt8.toInt32, ((nar .char f3)).toInt8.toInt32, ((nar .char f4)).toInt8.toInt32, ((nar .char f5)).toInt8.toInt32])⟩
              · refine own_back (fun t k => XS.icmpYes X0.here hx rfl (pc0 := 188) (pc' := 239) rfl (hb hby mk_d188) rfl (Jvm.Free.XT.ii_ne_t hc188_712) (by decide) (by decide) k) ?_
                show OwnGo p e below (s₁.setTop (mkF m 239 #[.val (.ref fa), .val (.int ln)] [])) _
                obtain ⟨T853, h853, X853, e853, E853, A853, D853, -, st853⟩ := newO X0 hx hZ hown (hw _ (List.mem_of_getElem? (i := 5) rfl)) (hw _ (List.mem_of_getElem? (i := 6) rfl)) (hw _ (List.mem_of_getElem? (i := 7) rfl)) e0 (g := (mkF m 239 #[.val (.ref fa), .val (.int ln)] [])) rfl (hb hby mk_d239) (Nat.le_of_ble_eq_true rfl) (Nat.le_of_ble_eq_true rfl)
                obtain ⟨b853, g853⟩ : ∃ z, z = h0.size := ⟨_, rfl⟩
                have ge854 : n0 ≤ b853 := Nat.le_trans Z0 (Nat.le_of_eq g853.symm)
                have sz855 : h0.size ≤ b853 := Nat.le_trans KP0.1 (Nat.le_of_eq g853.symm)
                rw [← g853] at A853 D853 st853
                have O856 := OL.ext E853
                have KP857 := KP0.ext E853
                have Zs858 := Nat.le_trans Z0 E853.1
                have CR859 := CR0.trans (CHr.ext E853 CR0.1)
                have hk860 := Nat.le_trans hk0 E853.1
                have f861 := VF.ext E853
                have F862 : Fld Z h853 b853 "java/lang/String" "value" "[B" .null := D853 (Or.inr (hw _ (List.mem_of_getElem? (i := 20) rfl))) (ty := (.array .byte)) (by decide)
                have F863 : Fld Z h853 b853 "java/lang/String" "coder" "B" (.int (0 : Int32)) := D853 (Or.inr (hw _ (List.mem_of_getElem? (i := 21) rfl))) (ty := .byte) (by decide)
                have sf864 := Safe.ext E853 CR0.1 (Safe.new (Nat.le_of_eq g853.symm))
                refine own_back st853 ?_
                show OwnGo p e below (T853.setTop (mkF m 242 #[.val (.ref fa), .val (.int ln)] [(.ref b853)])) _
                refine own_back (fun t k => XS.dup X853.here hx rfl (hb hby mk_d242) rfl rfl k) ?_
                show OwnGo p e below (T853.setTop (mkF m 243 #[.val (.ref fa), .val (.int ln)] [(.ref b853), (.ref b853)])) _
                refine own_back (fun t k => XS.bipush X853.here hx rfl (hb hby mk_d243) k) ?_
                show OwnGo p e below (T853.setTop (mkF m 245 #[.val (.ref fa), .val (.int ln)] [(.int (7 : Int32)), (.ref b853), (.ref b853)])) _
                obtain ⟨T865, h865, k865, X865, e865, E865, A865, st865⟩ := newP X853 hx hZ (hw _ (List.mem_of_getElem? (i := 0) rfl)) e853 (g := (mkF m 245 #[.val (.ref fa), .val (.int ln)] [(.int (7 : Int32)), (.ref b853), (.ref b853)])) rfl (hb hby mk_d245) rfl (by decide) (cap := 7) (by decide) (by decide) (Nat.le_of_ble_eq_true rfl) (Nat.le_of_ble_eq_true rfl)
                obtain ⟨b865, g865⟩ : ∃ z, z = h853.size := ⟨_, rfl⟩
                have ge866 : n0 ≤ b865 := Nat.le_trans Zs858 (Nat.le_of_eq g865.symm)
                have sz867 : h0.size ≤ b865 := Nat.le_trans KP857.1 (Nat.le_of_eq g865.symm)
                rw [← g865] at A865 st865
                have O868 := O856.ext E865
                have KP869 := KP857.ext E865
                have Zs870 := Nat.le_trans Zs858 E865.1
                have CR871 := CR859.trans (CHr.ext E865 CR859.1)
                have hk872 := Nat.le_trans hk860 E865.1
                have f873 := f861.ext E865
                have f874 := A853.ext E865
                have f875 := F862.ext E865
                have f876 := F863.ext E865
                have f877 := (Safe.ext E865 CR859.1 sf864)
                have V878 : Arv Z h865 b865 k865 .char (7 : Int32) [(.int (0 : Int32)), (.int (0 : Int32)), (.int (0 : Int32)), (.int (0 : Int32)), (.int (0 : Int32)), (.int (0 : Int32)), (.int (0 : Int32))] (.int (0 : Int32)) := (Arv.new A865 (by decide)).pad (pad_rep [] (.int (0 : Int32)) 7)
                have sf879 := Safe.ext E865 CR859.1 (Safe.new (Nat.le_of_eq g865.symm))
                refine own_back st865 ?_
                show OwnGo p e below (T865.setTop (mkF m 247 #[.val (.ref fa), .val (.int ln)] [(.ref b865), (.ref b853), (.ref b853)])) _
                refine own_back (fun t k => XS.dup X865.here hx rfl (hb hby mk_d247) rfl rfl k) ?_
                show OwnGo p e below (T865.setTop (mkF m 248 #[.val (.ref fa), .val (.int ln)] [(.ref b865), (.ref b865), (.ref b853), (.ref b853)])) _
                refine own_back (fun t k => XS.iconst X865.here hx rfl (hb hby mk_d248) k) ?_
                show OwnGo p e below (T865.setTop (mkF m 249 #[.val (.ref fa), .val (.int ln)] [(.int (0 : Int32)), (.ref b865), (.ref b865), (.ref b853), (.ref b853)])) _
                refine own_back (fun t k => XS.aloadN X865.here hx rfl (hb hby mk_d249) rfl rfl k) ?_
                show OwnGo p e below (T865.setTop (mkF m 250 #[.val (.ref fa), .val (.int ln)] [(.ref fa), (.int (0 : Int32)), (.ref b865), (.ref b865), (.ref b853), (.ref b853)])) _
                refine own_back (fun t k => XS.iconst X865.here hx rfl (hb hby mk_d250) k) ?_
                show OwnGo p e below (T865.setTop (mkF m 251 #[.val (.ref fa), .val (.int ln)] [(.int (0 : Int32)), (.ref fa), (.int (0 : Int32)), (.ref b865), (.ref b865), (.ref b853), (.ref b853)])) _
                obtain ⟨c880, A880, q880, S880, M880, H880, U880⟩ := id f873
                have ib881 : ¬ ((0 : Int32) < 0 ∨ c880.slots.size ≤ ((0 : Int32)).toNatClampNeg) := (inb_of S880 ⟨by decide, by decide⟩)
                refine own_back (fun t k => X865.caload hx (j := (0 : Int32)) (v := (.int f0)) (own_hat e865 A880.1) (State.isArrayOf_alike hZ.alike A880.2.1) A880.2.2 ib881 (H880.at ib881 rfl) (g := (mkF m 251 #[.val (.ref fa), .val (.int ln)] [(.int (0 : Int32)), (.ref fa), (.int (0 : Int32)), (.ref b865), (.ref b865), (.ref b853), (.ref b853)])) rfl rfl (hb hby mk_d251) t k) ?_
                show OwnGo p e below (T865.setTop (mkF m 252 #[.val (.ref fa), .val (.int ln)] [(.int f0), (.int (0 : Int32)), (.ref b865), (.ref b865), (.ref b853), (.ref b853)])) _
                obtain ⟨c882, A882, q882, S882, M882, H882, U882⟩ := id V878
                obtain ⟨T883, h883, X883, e883, W883, st883⟩ := stC X865 hx hZ e865 A882 (j := (0 : Int32)) (inb_of S882 ⟨by decide, by decide⟩) (g := (mkF m 252 #[.val (.ref fa), .val (.int ln)] [(.int f0), (.int (0 : Int32)), (.ref b865), (.ref b865), (.ref b853), (.ref b853)])) rfl rfl (hb hby mk_d252)
                have O884 := O868.wr W883 ge866
                have KP885 := KP869.wr W883 (Or.inr sz867)
                have Zs886 := Nat.le_trans Zs870 (Keep.of_wr W883).1
                have CR887 := CR871.trans (CHr.wr W883 sf879 CR871.1)
                have hk888 := Nat.le_trans hk872 (Keep.of_wr W883).1
                have f889 := f873.other W883 (Nat.ne_of_lt (Nat.lt_of_lt_of_le f861.lt (Nat.le_of_eq g865.symm)))
                have f890 := f874.wr W883
                have f891 := f875.other W883 (Or.inl (Nat.ne_of_lt (Nat.lt_of_lt_of_le A853.lt (Nat.le_of_eq g865.symm))))
                have f892 := f876.other W883 (Or.inl (Nat.ne_of_lt (Nat.lt_of_lt_of_le A853.lt (Nat.le_of_eq g865.symm))))
                have f893 := (Safe.wr W883 sf879 CR871.1 f877)
                have f894 := (Safe.wr W883 sf879 CR871.1 sf879)
                have V895 : Arv Z h883 b865 k865 .char (7 : Int32) [(.int (nar .char f0)), (.int (0 : Int32)), (.int (0 : Int32)), (.int (0 : Int32)), (.int (0 : Int32)), (.int (0 : Int32)), (.int (0 : Int32))] (.int (0 : Int32)) := Arv.set A882 q882 S882 M882 H882 U882 (fits_nar_char _) W883 0 rfl (Nat.le_of_ble_eq_true rfl)
                have N896 := Fr.snoc X883 N0 ge866
                refine own_back st883 ?_
                show OwnGo p e below (T883.setTop (mkF m 253 #[.val (.ref fa), .val (.int ln)] [(.ref b865), (.ref b853), (.ref b853)])) _
                refine own_back (fun t k => XS.dup X883.here hx rfl (hb hby mk_d253) rfl rfl k) ?_
                show OwnGo p e below (T883.setTop (mkF m 254 #[.val (.ref fa), .val (.int ln)] [(.ref b865), (.ref b865), (.ref b853), (.ref b853)])) _
                refine own_back (fun t k => XS.iconst X883.here hx rfl (hb hby mk_d254) k) ?_
                show OwnGo p e below (T883.setTop (mkF m 255 #[.val (.ref fa), .val (.int ln)] [(.int (1 : Int32)), (.ref b865), (.ref b865), (.ref b853), (.ref b853)])) _
                refine own_back (fun t k => XS.aloadN X883.here hx rfl (hb hby mk_d255) rfl rfl k) ?_
                show OwnGo p e below (T883.setTop (mkF m 256 #[.val (.ref fa), .val (.int ln)] [(.ref fa), (.int (1 : Int32)), (.ref b865), (.ref b865), (.ref b853), (.ref b853)])) _
                refine own_back (fun t k => XS.iconst X883.here hx rfl (hb hby mk_d256) k) ?_
                show OwnGo p e below (T883.setTop (mkF m 257 #[.val (.ref fa), .val (.int ln)] [(.int (1 : Int32)), (.ref fa), (.int (1 : Int32)), (.ref b865), (.ref b865), (.ref b853), (.ref b853)])) _
                obtain ⟨c897, A897, q897, S897, M897, H897, U897⟩ := id f889
                have ib898 : ¬ ((1 : Int32) < 0 ∨ c897.slots.size ≤ ((1 : Int32)).toNatClampNeg) := (inb_of S897 ⟨by decide, by decide⟩)
                refine own_back (fun t k => X883.caload hx (j := (1 : Int32)) (v := (.int f1)) (own_hat e883 A897.1) (State.isArrayOf_alike hZ.alike A897.2.1) A897.2.2 ib898 (H897.at ib898 rfl) (g := (mkF m 257 #[.val (.ref fa), .val (.int ln)] [(.int (1 : Int32)), (.ref fa), (.int (1 : Int32)), (.ref b865), (.ref b865), (.ref b853), (.ref b853)])) rfl rfl (hb hby mk_d257) t k) ?_
                show OwnGo p e below (T883.setTop (mkF m 258 #[.val (.ref fa), .val (.int ln)] [(.int f1), (.int (1 : Int32)), (.ref b865), (.ref b865), (.ref b853), (.ref b853)])) _
                obtain ⟨c899, A899, q899, S899, M899, H899, U899⟩ := id V895
                obtain ⟨T900, h900, X900, e900, W900, st900⟩ := stC X883 hx hZ e883 A899 (j := (1 : Int32)) (inb_of S899 ⟨by decide, by decide⟩) (g := (mkF m 258 #[.val (.ref fa), .val (.int ln)] [(.int f1), (.int (1 : Int32)), (.ref b865), (.ref b865), (.ref b853), (.ref b853)])) rfl rfl (hb hby mk_d258)
                have O901 := O884.wr W900 ge866
                have KP902 := KP885.wr W900 (Or.inr sz867)
                have Zs903 := Nat.le_trans Zs886 (Keep.of_wr W900).1
                have CR904 := CR887.trans (CHr.wr W900 f894 CR887.1)
                have hk905 := Nat.le_trans hk888 (Keep.of_wr W900).1
                have f906 := f889.other W900 (Nat.ne_of_lt (Nat.lt_of_lt_of_le f861.lt (Nat.le_of_eq g865.symm)))
                have f907 := f890.wr W900
                have f908 := f891.other W900 (Or.inl (Nat.ne_of_lt (Nat.lt_of_lt_of_le A853.lt (Nat.le_of_eq g865.symm))))
                have f909 := f892.other W900 (Or.inl (Nat.ne_of_lt (Nat.lt_of_lt_of_le A853.lt (Nat.le_of_eq g865.symm))))
                have f910 := (Safe.wr W900 f894 CR887.1 f893)
                have f911 := (Safe.wr W900 f894 CR887.1 f894)
                have V912 : Arv Z h900 b865 k865 .char (7 : Int32) [(.int (nar .char f0)), (.int (nar .char f1)), (.int (0 : Int32)), (.int (0 : Int32)), (.int (0 : Int32)), (.int (0 : Int32)), (.int (0 : Int32))] (.int (0 : Int32)) := Arv.set A899 q899 S899 M899 H899 U899 (fits_nar_char _) W900 1 rfl (Nat.le_of_ble_eq_true rfl)
                have N913 := Fr.snoc X900 N896 ge866
                refine own_back st900 ?_
                show OwnGo p e below (T900.setTop (mkF m 259 #[.val (.ref fa), .val (.int ln)] [(.ref b865), (.ref b853), (.ref b853)])) _
                refine own_back (fun t k => XS.dup X900.here hx rfl (hb hby mk_d259) rfl rfl k) ?_
                show OwnGo p e below (T900.setTop (mkF m 260 #[.val (.ref fa), .val (.int ln)] [(.ref b865), (.ref b865), (.ref b853), (.ref b853)])) _
                refine own_back (fun t k => XS.iconst X900.here hx rfl (hb hby mk_d260) k) ?_
                show OwnGo p e below (T900.setTop (mkF m 261 #[.val (.ref fa), .val (.int ln)] [(.int (2 : Int32)), (.ref b865), (.ref b865), (.ref b853), (.ref b853)])) _
                refine own_back (fun t k => XS.aloadN X900.here hx rfl (hb hby mk_d261) rfl rfl k) ?_
                show OwnGo p e below (T900.setTop (mkF m 262 #[.val (.ref fa), .val (.int ln)] [(.ref fa), (.int (2 : Int32)), (.ref b865), (.ref b865), (.ref b853), (.ref b853)])) _
                refine own_back (fun t k => XS.iconst X900.here hx rfl (hb hby mk_d262) k) ?_
                show OwnGo p e below (T900.setTop (mkF m 263 #[.val (.ref fa), .val (.int ln)] [(.int (2 : Int32)), (.ref fa), (.int (2 : Int32)), (.ref b865), (.ref b865), (.ref b853), (.ref b853)])) _
                obtain ⟨c914, A914, q914, S914, M914, H914, U914⟩ := id f906
                have ib915 : ¬ ((2 : Int32) < 0 ∨ c914.slots.size ≤ ((2 : Int32)).toNatClampNeg) := (inb_of S914 ⟨by decide, by decide⟩)
                refine own_back (fun t k => X900.caload hx (j := (2 : Int32)) (v := (.int f2)) (own_hat e900 A914.1) (State.isArrayOf_alike hZ.alike A914.2.1) A914.2.2 ib915 (H914.at ib915 rfl) (g := (mkF m 263 #[.val (.ref fa), .val (.int ln)] [(.int (2 : Int32)), (.ref fa), (.int (2 : Int32)), (.ref b865), (.ref b865), (.ref b853), (.ref b853)])) rfl rfl (hb hby mk_d263) t k) ?_
                show OwnGo p e below (T900.setTop (mkF m 264 #[.val (.ref fa), .val (.int ln)] [(.int f2), (.int (2 : Int32)), (.ref b865), (.ref b865), (.ref b853), (.ref b853)])) _
                obtain ⟨c916, A916, q916, S916, M916, H916, U916⟩ := id V912
                obtain ⟨T917, h917, X917, e917, W917, st917⟩ := stC X900 hx hZ e900 A916 (j := (2 : Int32)) (inb_of S916 ⟨by decide, by decide⟩) (g := (mkF m 264 #[.val (.ref fa), .val (.int ln)] [(.int f2), (.int (2 : Int32)), (.ref b865), (.ref b865), (.ref b853), (.ref b853)])) rfl rfl (hb hby mk_d264)
                have O918 := O901.wr W917 ge866
                have KP919 := KP902.wr W917 (Or.inr sz867)
                have Zs920 := Nat.le_trans Zs903 (Keep.of_wr W917).1
                have CR921 := CR904.trans (CHr.wr W917 f911 CR904.1)
                have hk922 := Nat.le_trans hk905 (Keep.of_wr W917).1
                have f923 := f906.other W917 (Nat.ne_of_lt (Nat.lt_of_lt_of_le f861.lt (Nat.le_of_eq g865.symm)))
                have f924 := f907.wr W917
                have f925 := f908.other W917 (Or.inl (Nat.ne_of_lt (Nat.lt_of_lt_of_le A853.lt (Nat.le_of_eq g865.symm))))
                have f926 := f909.other W917 (Or.inl (Nat.ne_of_lt (Nat.lt_of_lt_of_le A853.lt (Nat.le_of_eq g865.symm))))
                have f927 := (Safe.wr W917 f911 CR904.1 f910)
                have f928 := (Safe.wr W917 f911 CR904.1 f911)
                have V929 : Arv Z h917 b865 k865 .char (7 : Int32) [(.int (nar .char f0)), (.int (nar .char f1)), (.int (nar .char f2)), (.int (0 : Int32)), (.int (0 : Int32)), (.int (0 : Int32)), (.int (0 : Int32))] (.int (0 : Int32)) := Arv.set A916 q916 S916 M916 H916 U916 (fits_nar_char _) W917 2 rfl (Nat.le_of_ble_eq_true rfl)
                have N930 := Fr.snoc X917 N913 ge866
                refine own_back st917 ?_
                show OwnGo p e below (T917.setTop (mkF m 265 #[.val (.ref fa), .val (.int ln)] [(.ref b865), (.ref b853), (.ref b853)])) _
                refine own_back (fun t k => XS.dup X917.here hx rfl (hb hby mk_d265) rfl rfl k) ?_
                show OwnGo p e below (T917.setTop (mkF m 266 #[.val (.ref fa), .val (.int ln)] [(.ref b865), (.ref b865), (.ref b853), (.ref b853)])) _
                refine own_back (fun t k => XS.iconst X917.here hx rfl (hb hby mk_d266) k) ?_
                show OwnGo p e below (T917.setTop (mkF m 267 #[.val (.ref fa), .val (.int ln)] [(.int (3 : Int32)), (.ref b865), (.ref b865), (.ref b853), (.ref b853)])) _
                refine own_back (fun t k => XS.aloadN X917.here hx rfl (hb hby mk_d267) rfl rfl k) ?_
                show OwnGo p e below (T917.setTop (mkF m 268 #[.val (.ref fa), .val (.int ln)] [(.ref fa), (.int (3 : Int32)), (.ref b865), (.ref b865), (.ref b853), (.ref b853)])) _
                refine own_back (fun t k => XS.iconst X917.here hx rfl (hb hby mk_d268) k) ?_
                show OwnGo p e below (T917.setTop (mkF m 269 #[.val (.ref fa), .val (.int ln)] [(.int (3 : Int32)), (.ref fa), (.int (3 : Int32)), (.ref b865), (.ref b865), (.ref b853), (.ref b853)])) _
                obtain ⟨c931, A931, q931, S931, M931, H931, U931⟩ := id f923
                have ib932 : ¬ ((3 : Int32) < 0 ∨ c931.slots.size ≤ ((3 : Int32)).toNatClampNeg) := (inb_of S931 ⟨by decide, by decide⟩)
                refine own_back (fun t k => X917.caload hx (j := (3 : Int32)) (v := (.int f3)) (own_hat e917 A931.1) (State.isArrayOf_alike hZ.alike A931.2.1) A931.2.2 ib932 (H931.at ib932 rfl) (g := (mkF m 269 #[.val (.ref fa), .val (.int ln)] [(.int (3 : Int32)), (.ref fa), (.int (3 : Int32)), (.ref b865), (.ref b865), (.ref b853), (.ref b853)])) rfl rfl (hb hby mk_d269) t k) ?_
                show OwnGo p e below (T917.setTop (mkF m 270 #[.val (.ref fa), .val (.int ln)] [(.int f3), (.int (3 : Int32)), (.ref b865), (.ref b865), (.ref b853), (.ref b853)])) _
                obtain ⟨c933, A933, q933, S933, M933, H933, U933⟩ := id V929
                obtain ⟨T934, h934, X934, e934, W934, st934⟩ := stC X917 hx hZ e917 A933 (j := (3 : Int32)) (inb_of S933 ⟨by decide, by decide⟩) (g := (mkF m 270 #[.val (.ref fa), .val (.int ln)] [(.int f3), (.int (3 : Int32)), (.ref b865), (.ref b865), (.ref b853), (.ref b853)])) rfl rfl (hb hby mk_d270)
                have O935 := O918.wr W934 ge866
                have KP936 := KP919.wr W934 (Or.inr sz867)
                have Zs937 := Nat.le_trans Zs920 (Keep.of_wr W934).1
                have CR938 := CR921.trans (CHr.wr W934 f928 CR921.1)
                have hk939 := Nat.le_trans hk922 (Keep.of_wr W934).1
                have f940 := f923.other W934 (Nat.ne_of_lt (Nat.lt_of_lt_of_le f861.lt (Nat.le_of_eq g865.symm)))
                have f941 := f924.wr W934
                have f942 := f925.other W934 (Or.inl (Nat.ne_of_lt (Nat.lt_of_lt_of_le A853.lt (Nat.le_of_eq g865.symm))))
                have f943 := f926.other W934 (Or.inl (Nat.ne_of_lt (Nat.lt_of_lt_of_le A853.lt (Nat.le_of_eq g865.symm))))
                have f944 := (Safe.wr W934 f928 CR921.1 f927)
                have f945 := (Safe.wr W934 f928 CR921.1 f928)
                have V946 : Arv Z h934 b865 k865 .char (7 : Int32) [(.int (nar .char f0)), (.int (nar .char f1)), (.int (nar .char f2)), (.int (nar .char f3)), (.int (0 : Int32)), (.int (0 : Int32)), (.int (0 : Int32))] (.int (0 : Int32)) := Arv.set A933 q933 S933 M933 H933 U933 (fits_nar_char _) W934 3 rfl (Nat.le_of_ble_eq_true rfl)
                have N947 := Fr.snoc X934 N930 ge866
                refine own_back st934 ?_
                show OwnGo p e below (T934.setTop (mkF m 271 #[.val (.ref fa), .val (.int ln)] [(.ref b865), (.ref b853), (.ref b853)])) _
                refine own_back (fun t k => XS.dup X934.here hx rfl (hb hby mk_d271) rfl rfl k) ?_
                show OwnGo p e below (T934.setTop (mkF m 272 #[.val (.ref fa), .val (.int ln)] [(.ref b865), (.ref b865), (.ref b853), (.ref b853)])) _
                refine own_back (fun t k => XS.iconst X934.here hx rfl (hb hby mk_d272) k) ?_
                show OwnGo p e below (T934.setTop (mkF m 273 #[.val (.ref fa), .val (.int ln)] [(.int (4 : Int32)), (.ref b865), (.ref b865), (.ref b853), (.ref b853)])) _
                refine own_back (fun t k => XS.aloadN X934.here hx rfl (hb hby mk_d273) rfl rfl k) ?_
                show OwnGo p e below (T934.setTop (mkF m 274 #[.val (.ref fa), .val (.int ln)] [(.ref fa), (.int (4 : Int32)), (.ref b865), (.ref b865), (.ref b853), (.ref b853)])) _
                refine own_back (fun t k => XS.iconst X934.here hx rfl (hb hby mk_d274) k) ?_
                show OwnGo p e below (T934.setTop (mkF m 275 #[.val (.ref fa), .val (.int ln)] [(.int (4 : Int32)), (.ref fa), (.int (4 : Int32)), (.ref b865), (.ref b865), (.ref b853), (.ref b853)])) _
                obtain ⟨c948, A948, q948, S948, M948, H948, U948⟩ := id f940
                have ib949 : ¬ ((4 : Int32) < 0 ∨ c948.slots.size ≤ ((4 : Int32)).toNatClampNeg) := (inb_of S948 ⟨by decide, by decide⟩)
                refine own_back (fun t k => X934.caload hx (j := (4 : Int32)) (v := (.int f4)) (own_hat e934 A948.1) (State.isArrayOf_alike hZ.alike A948.2.1) A948.2.2 ib949 (H948.at ib949 rfl) (g := (mkF m 275 #[.val (.ref fa), .val (.int ln)] [(.int (4 : Int32)), (.ref fa), (.int (4 : Int32)), (.ref b865), (.ref b865), (.ref b853), (.ref b853)])) rfl rfl (hb hby mk_d275) t k) ?_
                show OwnGo p e below (T934.setTop (mkF m 276 #[.val (.ref fa), .val (.int ln)] [(.int f4), (.int (4 : Int32)), (.ref b865), (.ref b865), (.ref b853), (.ref b853)])) _
                obtain ⟨c950, A950, q950, S950, M950, H950, U950⟩ := id V946
                obtain ⟨T951, h951, X951, e951, W951, st951⟩ := stC X934 hx hZ e934 A950 (j := (4 : Int32)) (inb_of S950 ⟨by decide, by decide⟩) (g := (mkF m 276 #[.val (.ref fa), .val (.int ln)] [(.int f4), (.int (4 : Int32)), (.ref b865), (.ref b865), (.ref b853), (.ref b853)])) rfl rfl (hb hby mk_d276)
                have O952 := O935.wr W951 ge866
                have KP953 := KP936.wr W951 (Or.inr sz867)
                have Zs954 := Nat.le_trans Zs937 (Keep.of_wr W951).1
                have CR955 := CR938.trans (CHr.wr W951 f945 CR938.1)
                have hk956 := Nat.le_trans hk939 (Keep.of_wr W951).1
                have f957 := f940.other W951 (Nat.ne_of_lt (Nat.lt_of_lt_of_le f861.lt (Nat.le_of_eq g865.symm)))
                have f958 := f941.wr W951
                have f959 := f942.other W951 (Or.inl (Nat.ne_of_lt (Nat.lt_of_lt_of_le A853.lt (Nat.le_of_eq g865.symm))))
                have f960 := f943.other W951 (Or.inl (Nat.ne_of_lt (Nat.lt_of_lt_of_le A853.lt (Nat.le_of_eq g865.symm))))
                have f961 := (Safe.wr W951 f945 CR938.1 f944)
                have f962 := (Safe.wr W951 f945 CR938.1 f945)
                have V963 : Arv Z h951 b865 k865 .char (7 : Int32) [(.int (nar .char f0)), (.int (nar .char f1)), (.int (nar .char f2)), (.int (nar .char f3)), (.int (nar .char f4)), (.int (0 : Int32)), (.int (0 : Int32))] (.int (0 : Int32)) := Arv.set A950 q950 S950 M950 H950 U950 (fits_nar_char _) W951 4 rfl (Nat.le_of_ble_eq_true rfl)
                have N964 := Fr.snoc X951 N947 ge866
                refine own_back st951 ?_
                show OwnGo p e below (T951.setTop (mkF m 277 #[.val (.ref fa), .val (.int ln)] [(.ref b865), (.ref b853), (.ref b853)])) _
                refine own_back (fun t k => XS.dup X951.here hx rfl (hb hby mk_d277) rfl rfl k) ?_
                show OwnGo p e below (T951.setTop (mkF m 278 #[.val (.ref fa), .val (.int ln)] [(.ref b865), (.ref b865), (.ref b853), (.ref b853)])) _
                refine own_back (fun t k => XS.iconst X951.here hx rfl (hb hby mk_d278) k) ?_
                show OwnGo p e below (T951.setTop (mkF m 279 #[.val (.ref fa), .val (.int ln)] [(.int (5 : Int32)), (.ref b865), (.ref b865), (.ref b853), (.ref b853)])) _
                refine own_back (fun t k => XS.aloadN X951.here hx rfl (hb hby mk_d279) rfl rfl k) ?_
                show OwnGo p e below (T951.setTop (mkF m 280 #[.val (.ref fa), .val (.int ln)] [(.ref fa), (.int (5 : Int32)), (.ref b865), (.ref b865), (.ref b853), (.ref b853)])) _
                refine own_back (fun t k => XS.iconst X951.here hx rfl (hb hby mk_d280) k) ?_
                show OwnGo p e below (T951.setTop (mkF m 281 #[.val (.ref fa), .val (.int ln)] [(.int (5 : Int32)), (.ref fa), (.int (5 : Int32)), (.ref b865), (.ref b865), (.ref b853), (.ref b853)])) _
                obtain ⟨c965, A965, q965, S965, M965, H965, U965⟩ := id f957
                have ib966 : ¬ ((5 : Int32) < 0 ∨ c965.slots.size ≤ ((5 : Int32)).toNatClampNeg) := (inb_of S965 ⟨by decide, by decide⟩)
                refine own_back (fun t k => X951.caload hx (j := (5 : Int32)) (v := (.int f5)) (own_hat e951 A965.1) (State.isArrayOf_alike hZ.alike A965.2.1) A965.2.2 ib966 (H965.at ib966 rfl) (g := (mkF m 281 #[.val (.ref fa), .val (.int ln)] [(.int (5 : Int32)), (.ref fa), (.int (5 : Int32)), (.ref b865), (.ref b865), (.ref b853), (.ref b853)])) rfl rfl (hb hby mk_d281) t k) ?_
                show OwnGo p e below (T951.setTop (mkF m 282 #[.val (.ref fa), .val (.int ln)] [(.int f5), (.int (5 : Int32)), (.ref b865), (.ref b865), (.ref b853), (.ref b853)])) _
                obtain ⟨c967, A967, q967, S967, M967, H967, U967⟩ := id V963
                obtain ⟨T968, h968, X968, e968, W968, st968⟩ := stC X951 hx hZ e951 A967 (j := (5 : Int32)) (inb_of S967 ⟨by decide, by decide⟩) (g := (mkF m 282 #[.val (.ref fa), .val (.int ln)] [(.int f5), (.int (5 : Int32)), (.ref b865), (.ref b865), (.ref b853), (.ref b853)])) rfl rfl (hb hby mk_d282)
                have O969 := O952.wr W968 ge866
                have KP970 := KP953.wr W968 (Or.inr sz867)
                have Zs971 := Nat.le_trans Zs954 (Keep.of_wr W968).1
                have CR972 := CR955.trans (CHr.wr W968 f962 CR955.1)
                have hk973 := Nat.le_trans hk956 (Keep.of_wr W968).1
                have f974 := f957.other W968 (Nat.ne_of_lt (Nat.lt_of_lt_of_le f861.lt (Nat.le_of_eq g865.symm)))
                have f975 := f958.wr W968
                have f976 := f959.other W968 (Or.inl (Nat.ne_of_lt (Nat.lt_of_lt_of_le A853.lt (Nat.le_of_eq g865.symm))))
                have f977 := f960.other W968 (Or.inl (Nat.ne_of_lt (Nat.lt_of_lt_of_le A853.lt (Nat.le_of_eq g865.symm))))
                have f978 := (Safe.wr W968 f962 CR955.1 f961)
                have f979 := (Safe.wr W968 f962 CR955.1 f962)
                have V980 : Arv Z h968 b865 k865 .char (7 : Int32) [(.int (nar .char f0)), (.int (nar .char f1)), (.int (nar .char f2)), (.int (nar .char f3)), (.int (nar .char f4)), (.int (nar .char f5)), (.int (0 : Int32))] (.int (0 : Int32)) := Arv.set A967 q967 S967 M967 H967 U967 (fits_nar_char _) W968 5 rfl (Nat.le_of_ble_eq_true rfl)
                have N981 := Fr.snoc X968 N964 ge866
                refine own_back st968 ?_
                show OwnGo p e below (T968.setTop (mkF m 283 #[.val (.ref fa), .val (.int ln)] [(.ref b865), (.ref b853), (.ref b853)])) _
                refine own_back (fun t k => XS.dup X968.here hx rfl (hb hby mk_d283) rfl rfl k) ?_
                show OwnGo p e below (T968.setTop (mkF m 284 #[.val (.ref fa), .val (.int ln)] [(.ref b865), (.ref b865), (.ref b853), (.ref b853)])) _
                refine own_back (fun t k => XS.bipush X968.here hx rfl (hb hby mk_d284) k) ?_
                show OwnGo p e below (T968.setTop (mkF m 286 #[.val (.ref fa), .val (.int ln)] [(.int (6 : Int32)), (.ref b865), (.ref b865), (.ref b853), (.ref b853)])) _
                refine own_back (fun t k => XS.aloadN X968.here hx rfl (hb hby mk_d286) rfl rfl k) ?_
                show OwnGo p e below (T968.setTop (mkF m 287 #[.val (.ref fa), .val (.int ln)] [(.ref fa), (.int (6 : Int32)), (.ref b865), (.ref b865), (.ref b853), (.ref b853)])) _
                refine own_back (fun t k => XS.bipush X968.here hx rfl (hb hby mk_d287) k) ?_
                show OwnGo p e below (T968.setTop (mkF m 289 #[.val (.ref fa), .val (.int ln)] [(.int (6 : Int32)), (.ref fa), (.int (6 : Int32)), (.ref b865), (.ref b865), (.ref b853), (.ref b853)])) _
                obtain ⟨c982, A982, q982, S982, M982, H982, U982⟩ := id f974
                have ib983 : ¬ ((6 : Int32) < 0 ∨ c982.slots.size ≤ ((6 : Int32)).toNatClampNeg) := (inb_of S982 ⟨by decide, by decide⟩)
                refine own_back (fun t k => X968.caload hx (j := (6 : Int32)) (v := (.int f6)) (own_hat e968 A982.1) (State.isArrayOf_alike hZ.alike A982.2.1) A982.2.2 ib983 (H982.at ib983 rfl) (g := (mkF m 289 #[.val (.ref fa), .val (.int ln)] [(.int (6 : Int32)), (.ref fa), (.int (6 : Int32)), (.ref b865), (.ref b865), (.ref b853), (.ref b853)])) rfl rfl (hb hby mk_d289) t k) ?_
                show OwnGo p e below (T968.setTop (mkF m 290 #[.val (.ref fa), .val (.int ln)] [(.int f6), (.int (6 : Int32)), (.ref b865), (.ref b865), (.ref b853), (.ref b853)])) _
                obtain ⟨c984, A984, q984, S984, M984, H984, U984⟩ := id V980
                obtain ⟨T985, h985, X985, e985, W985, st985⟩ := stC X968 hx hZ e968 A984 (j := (6 : Int32)) (inb_of S984 ⟨by decide, by decide⟩) (g := (mkF m 290 #[.val (.ref fa), .val (.int ln)] [(.int f6), (.int (6 : Int32)), (.ref b865), (.ref b865), (.ref b853), (.ref b853)])) rfl rfl (hb hby mk_d290)
                have O986 := O969.wr W985 ge866
                have KP987 := KP970.wr W985 (Or.inr sz867)
                have Zs988 := Nat.le_trans Zs971 (Keep.of_wr W985).1
                have CR989 := CR972.trans (CHr.wr W985 f979 CR972.1)
                have hk990 := Nat.le_trans hk973 (Keep.of_wr W985).1
                have f991 := f974.other W985 (Nat.ne_of_lt (Nat.lt_of_lt_of_le f861.lt (Nat.le_of_eq g865.symm)))
                have f992 := f975.wr W985
                have f993 := f976.other W985 (Or.inl (Nat.ne_of_lt (Nat.lt_of_lt_of_le A853.lt (Nat.le_of_eq g865.symm))))
                have f994 := f977.other W985 (Or.inl (Nat.ne_of_lt (Nat.lt_of_lt_of_le A853.lt (Nat.le_of_eq g865.symm))))
                have f995 := (Safe.wr W985 f979 CR972.1 f978)
                have f996 := (Safe.wr W985 f979 CR972.1 f979)
                have V997 : Arv Z h985 b865 k865 .char (7 : Int32) [(.int (nar .char f0)), (.int (nar .char f1)), (.int (nar .char f2)), (.int (nar .char f3)), (.int (nar .char f4)), (.int (nar .char f5)), (.int (nar .char f6))] (.int (0 : Int32)) := Arv.set A984 q984 S984 M984 H984 U984 (fits_nar_char _) W985 6 rfl (Nat.le_of_ble_eq_true rfl)
                have N998 := Fr.snoc X985 N981 ge866
                refine own_back st985 ?_
                show OwnGo p e below (T985.setTop (mkF m 291 #[.val (.ref fa), .val (.int ln)] [(.ref b865), (.ref b853), (.ref b853)])) _
                obtain ⟨_, _, ⟨T999, L999, k999, n999⟩, -, X999, ⟨Lc999, hQ999, l999, y999, z999⟩, st999⟩ := X985.specialBack hx (y := (⟨"java/lang/String", "<init>", "([C)V"⟩ : MethodName)) rfl hown (mvT hZ (hw _ (List.mem_of_getElem? (i := 8) rfl))) (mvT hZ (hw _ (List.mem_of_getElem? (i := 9) rfl))) (mvT hZ (hw _ (List.mem_of_getElem? (i := 10) rfl))) (by decide) (StrChars.Road.backV (W := 1) hZ (own_wV hw) (kI := 4) (hw _ (List.mem_of_getElem? (i := 6) rfl)) (cs := ([(nar .char f0), (nar .char f1), (nar .char f2), (nar .char f3), (nar .char f4), (nar .char f5), (nar .char f6)] : List Int32)) (bs := ([(nar .char f0), (nar .char f1), (nar .char f2), (nar .char f3), (nar .char f4), (nar .char f5), (nar .char f6)] : List Int32).map (fun c => c.toInt8.toInt32)) (n := 7) ge854 Zs988 f992 f993 f994 V997 (SC.ext O986.2) hcz rfl rfl (by decide) (by decide) (own_allS (own_hpn H0) (own_allS (own_hpn H1) (own_allS (own_hpn H2) (own_allS (own_hpn H3) (own_allS (own_hpn H4) (own_allS (own_hpn H5) (own_allS (own_hpn H6) own_all0))))))) rfl (by decide) (by decide)) (g := (mkF m 291 #[.val (.ref fa), .val (.int ln)] [(.ref b865), (.ref b853), (.ref b853)])) rfl (by rw [hml]; rfl) (Steps.refl _) (a := b853) (argsL := [(.ref b865)]) (rest := [(.ref b853)]) (lenOf mk_pd0 rfl) rfl (by show 2 * 0 + _ ≤ _; exact Nat.le_of_eq rfl) (hb hby mk_d291) (fun _ _ => ⟨rfl, e985, Nat.le_of_ble_eq_true rfl, Nat.le_of_ble_eq_true rfl⟩)
                dsimp only [Pt.U, Pt.locs, Pt.cells, Pt.slots] at X999 l999 y999 z999 st999 hQ999
                subst l999 y999 z999
                obtain ⟨rfl, N999q, K999, EX999, C999, t999, kb999, gt999, zt999, nt999, FV999, AV999⟩ := hQ999
                refine own_seq st999 ?_
                have N999 := Fr.app N998 N999q
                have O1000 := O986.keep K999 (allS ge854 all0)
                have KP1001 := KP987.trans K999 (allS (Or.inr sz855) all0)
                have Zs1002 := Nat.le_trans Zs988 K999.1
                have CR1003 := CR989.trans (CHr.keep K999 (sfS f995 sf0) CR989.1)
                have hk1004 := Nat.le_trans hk990 K999.1
                have f1005 := f991.keep K999 (ninS (Nat.ne_of_lt (Nat.lt_of_lt_of_le VF.lt (Nat.le_of_eq g853.symm))) nin0)
                have f1006 := f992.keep K999
                have f1007 := (Safe.keep K999 (sfS f995 sf0) CR989.1 f995)
                have f1008 := (Safe.keep K999 (sfS f995 sf0) CR989.1 f996)
                have f1009 := V997.keep K999 (ninS (Ne.symm (Nat.ne_of_lt (Nat.lt_of_lt_of_le A853.lt (Nat.le_of_eq g865.symm)))) nin0)
                show OwnGo p e below (T999.setTop (mkF m 294 #[.val (.ref fa), .val (.int ln)] [(.ref b853)])) _
                refine own_retAW X999 hx Bd.notSynchronized Bd.returns rfl rfl hS0 hk1004 hZ hEL (hh ▸ CR1003) (hb hby mk_d294) rfl (Nat.le_of_ble_eq_true rfl) (Nat.le_of_ble_eq_true rfl) ?_
                exact ⟨b853, rfl, N999, own_ext KP1001, by rw [own_mk, if_neg hc1_224, if_neg hc17_262, if_neg hc39_318, if_neg hc67_391, if_neg hc101_481, if_neg hc141_588, if_neg hc188_712]; exact (⟨t999, kb999, EX999, C999, FV999, AV999, Nat.le_of_ble_eq_true rfl⟩ : OwnStr Z T999.heap b853 [((nar .char f0)).toInt8.toInt32, ((nar .char f1)).toInt8.toInt32, ((nar .char f2)).toInt8.toInt32, ((nar .char f3)).toInt8.toInt32, ((nar .char f4)).toInt8.toInt32, ((nar .char f5)).toInt8.toInt32, ((nar .char f6)).toInt8.toInt32])⟩
theorem lw_pn : plainName "com/example/indexwright/indexwright/bond/BondVariantOfPinLaw" = true := by first | (simp [plainName, overriddenIn]; done) | decide +kernel
theorem lw_pd0 : parseMethodDescriptor "([CI)Ljava/lang/String;" = some ⟨[(.array .char), .int], some (.object "java/lang/String")⟩ := by decide +kernel
theorem lw_pd1 : parseMethodDescriptor "(Ljava/lang/String;)Lcom/example/indexwright/indexwright/bond/BondVariant;" = some ⟨[(.object "java/lang/String")], some (.object "com/example/indexwright/indexwright/bond/BondVariant")⟩ := by decide +kernel
theorem lw_ef (m : MethodId) (x0 : Int32) (x1 : Int32) (x2 : Int32) : entryFrame m #[(.int x0), (.int x1), (.int x2)] maxLocals = mkF m 0 #[.val (.int x0), .val (.int x1), .val (.int x2), .unset, .unset, .unset, .unset, .unset, .unset, .unset, .unset, .unset, .unset, .unset, .unset, .unset, .unset, .unset, .unset] [] := by first | (simp [entryFrame, mkF, argsToLocals, Value.category, maxLocals]; done) | rfl
set_option maxRecDepth 65536 in
set_option maxHeartbeats 40000000 in
theorem rm_law (l : Launch) (Z : State) (a0 : Array Value) (hw : ∀ d ∈ tables_1, d.before a0 Z = true) (ws : List Jvm.Cond) (p1 : Int32) (p2 : Int32) (p3 : Int32) (wP : Addr) (wT : Addr) (wV : Addr) (kV : ClassId) (kP : Addr) (kT : Addr) (cz : Int32) (h0 : Heap) (n0 : Nat) (Z0 : n0 ≤ h0.size) (OL : Old Z n0 h0) (SP : Sta Z Z.heap "com/example/indexwright/indexwright/bond/BondVariant" "PRICE" "Lcom/example/indexwright/indexwright/bond/BondVariant;" (.ref wP)) (ST : Sta Z Z.heap "com/example/indexwright/indexwright/bond/BondVariant" "TOTAL" "Lcom/example/indexwright/indexwright/bond/BondVariant;" (.ref wT)) (SV : Sta Z Z.heap "com/example/indexwright/indexwright/bond/BondVariant" "$VALUES" "[Lcom/example/indexwright/indexwright/bond/BondVariant;" (.ref wV)) (AV : Arv Z Z.heap wV kV (.object "com/example/indexwright/indexwright/bond/BondVariant") 2 [.ref wP, .ref wT] .null) (EV : Exa Z Z.heap wV "[Lcom/example/indexwright/indexwright/bond/BondVariant;") (FV : ∀ c, Z.heap[wV]? = some c → FitC Z c) (FP : Fld Z Z.heap wP "com/example/indexwright/indexwright/bond/BondVariant" "key" "Ljava/lang/String;" (.ref kP)) (FT : Fld Z Z.heap wT "com/example/indexwright/indexwright/bond/BondVariant" "key" "Ljava/lang/String;" (.ref kT)) (BP : OwnStr Z Z.heap kP [112, 114, 105, 99, 101]) (BT : OwnStr Z Z.heap kT [116, 111, 116, 97, 108]) (SC : Sta Z Z.heap "java/lang/String" "COMPACT_STRINGS" "Z" (.int cz)) (hcz : ¬ cz = 0) :
    MetFree l x (head1 (Jvm.Cond.code x code maxLocals ret :: ws) room_1) (fun a U => a = #[(.int p1), (.int p2), (.int p3)] ∧ Z.Warmed39 U.vm ∧ U.heap = h0 ∧ CHv Z own_EL U.vm h0 ∧ ∀ x ∈ ([] : List Addr), Safe Z own_EL U.vm h0 x) (fun _ _ _ _ _ => True) (fun _ U o U' => OwnEndW Z own_EL U (fun v h L => v = some (.int 1) ∧ Fr n0 L) room_1.cells room_1.slots o U') := by
  refine MetFree.of_bodySF (plainFor_of_name lw_pn) hisR ?_
  intro p e s m args below meth c s₁ Bd hml0 hP hK
  obtain ⟨rfl, hZ, hh, hCH, hSL⟩ := hP
  have hx := Bd.exec
  have hby := Bd.bytes
  have hml : c.maxLocals = 19 := hml0
  have hown : s.vm.findClass "com/example/indexwright/indexwright/bond/BondVariantOfPinLaw" = some m.cls := findClass_of_methodNamed Bd.named
  have hnm := (name_of_methodNamed Bd.named Bd.method).1
  have X0 : Stand p l e room_1 (s.setVm s.vm) m #[(.int p1), (.int p2), (.int p3)] below meth c s₁ [] 0 0 := Stand.of_body Bd
  have e0 : s₁.heap = h0 := by rw [← hh, Bd.state]; rfl
  have N0 := Fr.nil n0
  have KP0 := Keep.refl h0 []
  have hown : (s.setVm s.vm).vm.findClass "com/example/indexwright/indexwright/bond/BondVariantOfPinLaw" = some m.cls := hown
  have hZ : Z.Warmed39 (s.setVm s.vm).vm := hZ
  have hS0 : s.Since s.vm 0 := (State.WarmedH.refl s).since 0
  have hk0 : 0 ≤ h0.size := Nat.zero_le _
  have CR0 : CHr Z own_EL s.vm h0 s.vm h0 := CHr.refl hCH
  have hEL := own_EW hw
  refine own_go (Q := (OwnEndW Z own_EL s (fun v h L => v = some (.int 1) ∧ Fr n0 L) room_1.cells room_1.slots)) ?_
  refine own_back (fun t k => castTop (lw_ef m p1 p2 p3) k) ?_
  show OwnGo p e below (s₁.setTop (mkF m 0 #[.val (.int p1), .val (.int p2), .val (.int p3), .unset, .unset, .unset, .unset, .unset, .unset, .unset, .unset, .unset, .unset, .unset, .unset, .unset, .unset, .unset, .unset] [])) _
  refine own_back (fun t k => XS.iloadN X0.here hx rfl (hb hby at_0) rfl k) ?_
  show OwnGo p e below (s₁.setTop (mkF m 1 #[.val (.int p1), .val (.int p2), .val (.int p3), .unset, .unset, .unset, .unset, .unset, .unset, .unset, .unset, .unset, .unset, .unset, .unset, .unset, .unset, .unset, .unset] [(.int p1)])) _
  refine own_back (fun t k => XS.iconst X0.here hx rfl (hb hby at_1) k) ?_
  show OwnGo p e below (s₁.setTop (mkF m 2 #[.val (.int p1), .val (.int p2), .val (.int p3), .unset, .unset, .unset, .unset, .unset, .unset, .unset, .unset, .unset, .unset, .unset, .unset, .unset, .unset, .unset, .unset] [(.int (1 : Int32)), (.int p1)])) _
  refine own_back (fun t k => XS.iand X0.here hx rfl (hb hby at_2) rfl k) ?_
  show OwnGo p e below (s₁.setTop (mkF m 3 #[.val (.int p1), .val (.int p2), .val (.int p3), .unset, .unset, .unset, .unset, .unset, .unset, .unset, .unset, .unset, .unset, .unset, .unset, .unset, .unset, .unset, .unset] [(.int (p1 &&& (1 : Int32)))])) _
  have tl11_1010 : ∀ (Tj1010 : State) (hj1010 : Heap) (tt : Int32), OwnSt p l e room_1 s m #[(.int p1), (.int p2), (.int p3)] below meth c Z own_EL "com/example/indexwright/indexwright/bond/BondVariantOfPinLaw" n0 h0 [] Tj1010 hj1010 0 0 → OwnGo p e below (Tj1010.setTop (mkF m 11 #[.val (.int p1), .val (.int p2), .val (.int p3), .unset, .unset, .unset, .unset, .unset, .unset, .unset, .unset, .unset, .unset, .unset, .unset, .unset, .unset, .unset, .unset] [(.int tt)])) (OwnEndW Z own_EL s (fun v h L => v = some (.int 1) ∧ Fr n0 L) room_1.cells room_1.slots) := by
    intro Tj1010 hj1010 tt HS1010
    obtain ⟨vj1010, kj1010, Lj1010, Xj1010, ej1010, hSj1010, hkj1010, hZj1010, hownj1010, CRj1010, Oj1010, KPj1010, Zj1010, Nj1010⟩ := HS1010
    show OwnGo p e below (Tj1010.setTop (mkF m 11 #[.val (.int p1), .val (.int p2), .val (.int p3), .unset, .unset, .unset, .unset, .unset, .unset, .unset, .unset, .unset, .unset, .unset, .unset, .unset, .unset, .unset, .unset] [(.int tt)])) _
    refine own_back (fun t k => XS.istoreN Xj1010.here hx rfl (hb hby at_11) rfl (l' := #[.val (.int p1), .val (.int p2), .val (.int p3), .val (.int tt), .unset, .unset, .unset, .unset, .unset, .unset, .unset, .unset, .unset, .unset, .unset, .unset, .unset, .unset, .unset]) rfl k) ?_
    show OwnGo p e below (Tj1010.setTop (mkF m 12 #[.val (.int p1), .val (.int p2), .val (.int p3), .val (.int tt), .unset, .unset, .unset, .unset, .unset, .unset, .unset, .unset, .unset, .unset, .unset, .unset, .unset, .unset, .unset] [])) _
    refine own_back (fun t k => XS.iloadN Xj1010.here hx rfl (hb hby at_12) rfl k) ?_
    show OwnGo p e below (Tj1010.setTop (mkF m 13 #[.val (.int p1), .val (.int p2), .val (.int p3), .val (.int tt), .unset, .unset, .unset, .unset, .unset, .unset, .unset, .unset, .unset, .unset, .unset, .unset, .unset, .unset, .unset] [(.int p1)])) _
    refine own_back (fun t k => XS.iconst Xj1010.here hx rfl (hb hby at_13) k) ?_
    show OwnGo p e below (Tj1010.setTop (mkF m 14 #[.val (.int p1), .val (.int p2), .val (.int p3), .val (.int tt), .unset, .unset, .unset, .unset, .unset, .unset, .unset, .unset, .unset, .unset, .unset, .unset, .unset, .unset, .unset] [(.int (1 : Int32)), (.int p1)])) _
    refine own_back (fun t k => XS.iushr Xj1010.here hx rfl (hb hby at_14) rfl k) ?_
    show OwnGo p e below (Tj1010.setTop (mkF m 15 #[.val (.int p1), .val (.int p2), .val (.int p3), .val (.int tt), .unset, .unset, .unset, .unset, .unset, .unset, .unset, .unset, .unset, .unset, .unset, .unset, .unset, .unset, .unset] [(.int ((p1.toUInt32 >>> ((1 : Int32) &&& 31).toUInt32).toInt32))])) _
    refine own_back (fun t k => XS.bipush Xj1010.here hx rfl (hb hby at_15) k) ?_
    show OwnGo p e below (Tj1010.setTop (mkF m 17 #[.val (.int p1), .val (.int p2), .val (.int p3), .val (.int tt), .unset, .unset, .unset, .unset, .unset, .unset, .unset, .unset, .unset, .unset, .unset, .unset, .unset, .unset, .unset] [(.int (7 : Int32)), (.int ((p1.toUInt32 >>> ((1 : Int32) &&& 31).toUInt32).toInt32))])) _
    refine own_back (fun t k => XS.iand Xj1010.here hx rfl (hb hby at_17) rfl k) ?_
    show OwnGo p e below (Tj1010.setTop (mkF m 18 #[.val (.int p1), .val (.int p2), .val (.int p3), .val (.int tt), .unset, .unset, .unset, .unset, .unset, .unset, .unset, .unset, .unset, .unset, .unset, .unset, .unset, .unset, .unset] [(.int (((p1.toUInt32 >>> ((1 : Int32) &&& 31).toUInt32).toInt32) &&& (7 : Int32)))])) _
    refine own_back (fun t k => XS.istore Xj1010.here hx rfl (hb hby at_18) rfl (l' := #[.val (.int p1), .val (.int p2), .val (.int p3), .val (.int tt), .val (.int (((p1.toUInt32 >>> ((1 : Int32) &&& 31).toUInt32).toInt32) &&& (7 : Int32))), .unset, .unset, .unset, .unset, .unset, .unset, .unset, .unset, .unset, .unset, .unset, .unset, .unset, .unset]) rfl k) ?_
    show OwnGo p e below (Tj1010.setTop (mkF m 20 #[.val (.int p1), .val (.int p2), .val (.int p3), .val (.int tt), .val (.int (((p1.toUInt32 >>> ((1 : Int32) &&& 31).toUInt32).toInt32) &&& (7 : Int32))), .unset, .unset, .unset, .unset, .unset, .unset, .unset, .unset, .unset, .unset, .unset, .unset, .unset, .unset] [])) _
    obtain ⟨ln, eln⟩ : ∃ z : Int32, z = (((p1.toUInt32 >>> ((1 : Int32) &&& 31).toUInt32).toInt32) &&& (7 : Int32)) := ⟨_, rfl⟩
    rw [← eln]
    show OwnGo p e below (Tj1010.setTop (mkF m 20 #[.val (.int p1), .val (.int p2), .val (.int p3), .val (.int tt), .val (.int ln), .unset, .unset, .unset, .unset, .unset, .unset, .unset, .unset, .unset, .unset, .unset, .unset, .unset, .unset] [])) _
    refine own_back (fun t k => XS.iloadN Xj1010.here hx rfl (hb hby at_20) rfl k) ?_
    show OwnGo p e below (Tj1010.setTop (mkF m 21 #[.val (.int p1), .val (.int p2), .val (.int p3), .val (.int tt), .val (.int ln), .unset, .unset, .unset, .unset, .unset, .unset, .unset, .unset, .unset, .unset, .unset, .unset, .unset, .unset] [(.int p1)])) _
    refine own_back (fun t k => XS.iconst Xj1010.here hx rfl (hb hby at_21) k) ?_
    show OwnGo p e below (Tj1010.setTop (mkF m 22 #[.val (.int p1), .val (.int p2), .val (.int p3), .val (.int tt), .val (.int ln), .unset, .unset, .unset, .unset, .unset, .unset, .unset, .unset, .unset, .unset, .unset, .unset, .unset, .unset] [(.int (4 : Int32)), (.int p1)])) _
    refine own_back (fun t k => XS.iushr Xj1010.here hx rfl (hb hby at_22) rfl k) ?_
    show OwnGo p e below (Tj1010.setTop (mkF m 23 #[.val (.int p1), .val (.int p2), .val (.int p3), .val (.int tt), .val (.int ln), .unset, .unset, .unset, .unset, .unset, .unset, .unset, .unset, .unset, .unset, .unset, .unset, .unset, .unset] [(.int ((p1.toUInt32 >>> ((4 : Int32) &&& 31).toUInt32).toInt32))])) _
    refine own_back (fun t k => XS.iconst Xj1010.here hx rfl (hb hby at_23) k) ?_
    show OwnGo p e below (Tj1010.setTop (mkF m 24 #[.val (.int p1), .val (.int p2), .val (.int p3), .val (.int tt), .val (.int ln), .unset, .unset, .unset, .unset, .unset, .unset, .unset, .unset, .unset, .unset, .unset, .unset, .unset, .unset] [(.int (1 : Int32)), (.int ((p1.toUInt32 >>> ((4 : Int32) &&& 31).toUInt32).toInt32))])) _
    refine own_back (fun t k => XS.iand Xj1010.here hx rfl (hb hby at_24) rfl k) ?_
    show OwnGo p e below (Tj1010.setTop (mkF m 25 #[.val (.int p1), .val (.int p2), .val (.int p3), .val (.int tt), .val (.int ln), .unset, .unset, .unset, .unset, .unset, .unset, .unset, .unset, .unset, .unset, .unset, .unset, .unset, .unset] [(.int (((p1.toUInt32 >>> ((4 : Int32) &&& 31).toUInt32).toInt32) &&& (1 : Int32)))])) _
    have tl33_1011 : ∀ (Tj1011 : State) (hj1011 : Heap) (dd : Int32), OwnSt p l e room_1 s m #[(.int p1), (.int p2), (.int p3)] below meth c Z own_EL "com/example/indexwright/indexwright/bond/BondVariantOfPinLaw" n0 h0 [] Tj1011 hj1011 0 0 → OwnGo p e below (Tj1011.setTop (mkF m 33 #[.val (.int p1), .val (.int p2), .val (.int p3), .val (.int tt), .val (.int ln), .unset, .unset, .unset, .unset, .unset, .unset, .unset, .unset, .unset, .unset, .unset, .unset, .unset, .unset] [(.int dd)])) (OwnEndW Z own_EL s (fun v h L => v = some (.int 1) ∧ Fr n0 L) room_1.cells room_1.slots) := by
      intro Tj1011 hj1011 dd HS1011
      obtain ⟨vj1011, kj1011, Lj1011, Xj1011, ej1011, hSj1011, hkj1011, hZj1011, hownj1011, CRj1011, Oj1011, KPj1011, Zj1011, Nj1011⟩ := HS1011
      show OwnGo p e below (Tj1011.setTop (mkF m 33 #[.val (.int p1), .val (.int p2), .val (.int p3), .val (.int tt), .val (.int ln), .unset, .unset, .unset, .unset, .unset, .unset, .unset, .unset, .unset, .unset, .unset, .unset, .unset, .unset] [(.int dd)])) _
      refine own_back (fun t k => XS.istore Xj1011.here hx rfl (hb hby at_33) rfl (l' := #[.val (.int p1), .val (.int p2), .val (.int p3), .val (.int tt), .val (.int ln), .val (.int dd), .unset, .unset, .unset, .unset, .unset, .unset, .unset, .unset, .unset, .unset, .unset, .unset, .unset]) rfl k) ?_
      show OwnGo p e below (Tj1011.setTop (mkF m 35 #[.val (.int p1), .val (.int p2), .val (.int p3), .val (.int tt), .val (.int ln), .val (.int dd), .unset, .unset, .unset, .unset, .unset, .unset, .unset, .unset, .unset, .unset, .unset, .unset, .unset] [])) _
      refine own_back (fun t k => XS.iloadN Xj1011.here hx rfl (hb hby at_35) rfl k) ?_
      show OwnGo p e below (Tj1011.setTop (mkF m 36 #[.val (.int p1), .val (.int p2), .val (.int p3), .val (.int tt), .val (.int ln), .val (.int dd), .unset, .unset, .unset, .unset, .unset, .unset, .unset, .unset, .unset, .unset, .unset, .unset, .unset] [(.int p1)])) _
      refine own_back (fun t k => XS.iconst Xj1011.here hx rfl (hb hby at_36) k) ?_
      show OwnGo p e below (Tj1011.setTop (mkF m 37 #[.val (.int p1), .val (.int p2), .val (.int p3), .val (.int tt), .val (.int ln), .val (.int dd), .unset, .unset, .unset, .unset, .unset, .unset, .unset, .unset, .unset, .unset, .unset, .unset, .unset] [(.int (5 : Int32)), (.int p1)])) _
      refine own_back (fun t k => XS.iushr Xj1011.here hx rfl (hb hby at_37) rfl k) ?_
      show OwnGo p e below (Tj1011.setTop (mkF m 38 #[.val (.int p1), .val (.int p2), .val (.int p3), .val (.int tt), .val (.int ln), .val (.int dd), .unset, .unset, .unset, .unset, .unset, .unset, .unset, .unset, .unset, .unset, .unset, .unset, .unset] [(.int ((p1.toUInt32 >>> ((5 : Int32) &&& 31).toUInt32).toInt32))])) _
      refine own_back (fun t k => XS.bipush Xj1011.here hx rfl (hb hby at_38) k) ?_
      show OwnGo p e below (Tj1011.setTop (mkF m 40 #[.val (.int p1), .val (.int p2), .val (.int p3), .val (.int tt), .val (.int ln), .val (.int dd), .unset, .unset, .unset, .unset, .unset, .unset, .unset, .unset, .unset, .unset, .unset, .unset, .unset] [(.int (15 : Int32)), (.int ((p1.toUInt32 >>> ((5 : Int32) &&& 31).toUInt32).toInt32))])) _
      refine own_back (fun t k => XS.iand Xj1011.here hx rfl (hb hby at_40) rfl k) ?_
      show OwnGo p e below (Tj1011.setTop (mkF m 41 #[.val (.int p1), .val (.int p2), .val (.int p3), .val (.int tt), .val (.int ln), .val (.int dd), .unset, .unset, .unset, .unset, .unset, .unset, .unset, .unset, .unset, .unset, .unset, .unset, .unset] [(.int (((p1.toUInt32 >>> ((5 : Int32) &&& 31).toUInt32).toInt32) &&& (15 : Int32)))])) _
      refine own_back (fun t k => XS.bipush Xj1011.here hx rfl (hb hby at_41) k) ?_
      show OwnGo p e below (Tj1011.setTop (mkF m 43 #[.val (.int p1), .val (.int p2), .val (.int p3), .val (.int tt), .val (.int ln), .val (.int dd), .unset, .unset, .unset, .unset, .unset, .unset, .unset, .unset, .unset, .unset, .unset, .unset, .unset] [(.int (15 : Int32)), (.int (((p1.toUInt32 >>> ((5 : Int32) &&& 31).toUInt32).toInt32) &&& (15 : Int32)))])) _
      have tl51_1012 : ∀ (Tj1012 : State) (hj1012 : Heap) (nn : Int32), OwnSt p l e room_1 s m #[(.int p1), (.int p2), (.int p3)] below meth c Z own_EL "com/example/indexwright/indexwright/bond/BondVariantOfPinLaw" n0 h0 [] Tj1012 hj1012 0 0 → OwnGo p e below (Tj1012.setTop (mkF m 51 #[.val (.int p1), .val (.int p2), .val (.int p3), .val (.int tt), .val (.int ln), .val (.int dd), .unset, .unset, .unset, .unset, .unset, .unset, .unset, .unset, .unset, .unset, .unset, .unset, .unset] [(.int nn)])) (OwnEndW Z own_EL s (fun v h L => v = some (.int 1) ∧ Fr n0 L) room_1.cells room_1.slots) := by
        intro Tj1012 hj1012 nn HS1012
        obtain ⟨vj1012, kj1012, Lj1012, Xj1012, ej1012, hSj1012, hkj1012, hZj1012, hownj1012, CRj1012, Oj1012, KPj1012, Zj1012, Nj1012⟩ := HS1012
        show OwnGo p e below (Tj1012.setTop (mkF m 51 #[.val (.int p1), .val (.int p2), .val (.int p3), .val (.int tt), .val (.int ln), .val (.int dd), .unset, .unset, .unset, .unset, .unset, .unset, .unset, .unset, .unset, .unset, .unset, .unset, .unset] [(.int nn)])) _
        refine own_back (fun t k => XS.istore Xj1012.here hx rfl (hb hby at_51) rfl (l' := #[.val (.int p1), .val (.int p2), .val (.int p3), .val (.int tt), .val (.int ln), .val (.int dd), .val (.int nn), .unset, .unset, .unset, .unset, .unset, .unset, .unset, .unset, .unset, .unset, .unset, .unset]) rfl k) ?_
        show OwnGo p e below (Tj1012.setTop (mkF m 53 #[.val (.int p1), .val (.int p2), .val (.int p3), .val (.int tt), .val (.int ln), .val (.int dd), .val (.int nn), .unset, .unset, .unset, .unset, .unset, .unset, .unset, .unset, .unset, .unset, .unset, .unset] [])) _
        refine own_back (fun t k => XS.iloadN Xj1012.here hx rfl (hb hby at_53) rfl k) ?_
        show OwnGo p e below (Tj1012.setTop (mkF m 54 #[.val (.int p1), .val (.int p2), .val (.int p3), .val (.int tt), .val (.int ln), .val (.int dd), .val (.int nn), .unset, .unset, .unset, .unset, .unset, .unset, .unset, .unset, .unset, .unset, .unset, .unset] [(.int tt)])) _
        have tl140_1013 : ∀ (Tj1013 : State) (hj1013 : Heap) (ba : Addr) (kb : ClassId) (c0 : Int32) (c1 : Int32) (c2 : Int32) (c3 : Int32) (c4 : Int32) (c5 : Int32) (c6 : Int32), OwnSt p l e room_1 s m #[(.int p1), (.int p2), (.int p3)] below meth c Z own_EL "com/example/indexwright/indexwright/bond/BondVariantOfPinLaw" n0 h0 [] Tj1013 hj1013 1 7 → (Arv Z hj1013 ba kb .char (7 : Int32) [.int c0, .int c1, .int c2, .int c3, .int c4, .int c5, .int c6] (.int 0)) → (∀ y ∈ ([c0, c1, c2, c3, c4, c5, c6] : List Int32), OwnCh y) → OwnGo p e below (Tj1013.setTop (mkF m 140 #[.val (.int p1), .val (.int p2), .val (.int p3), .val (.int tt), .val (.int ln), .val (.int dd), .val (.int nn), .unset, .unset, .unset, .unset, .unset, .unset, .unset, .unset, .unset, .unset, .unset, .unset] [(.ref ba)])) (OwnEndW Z own_EL s (fun v h L => v = some (.int 1) ∧ Fr n0 L) room_1.cells room_1.slots) := by
          intro Tj1013 hj1013 ba kb c0 c1 c2 c3 c4 c5 c6 HS1013 hs1013_0 hcs
          obtain ⟨vj1013, kj1013, Lj1013, Xj1013, ej1013, hSj1013, hkj1013, hZj1013, hownj1013, CRj1013, Oj1013, KPj1013, Zj1013, Nj1013⟩ := HS1013
          show OwnGo p e below (Tj1013.setTop (mkF m 140 #[.val (.int p1), .val (.int p2), .val (.int p3), .val (.int tt), .val (.int ln), .val (.int dd), .val (.int nn), .unset, .unset, .unset, .unset, .unset, .unset, .unset, .unset, .unset, .unset, .unset, .unset] [(.ref ba)])) _
          refine own_back (fun t k => XS.astore Xj1013.here hx rfl (hb hby at_140) rfl rfl (l' := #[.val (.int p1), .val (.int p2), .val (.int p3), .val (.int tt), .val (.int ln), .val (.int dd), .val (.int nn), .val (.ref ba), .unset, .unset, .unset, .unset, .unset, .unset, .unset, .unset, .unset, .unset, .unset]) rfl k) ?_
          show OwnGo p e below (Tj1013.setTop (mkF m 142 #[.val (.int p1), .val (.int p2), .val (.int p3), .val (.int tt), .val (.int ln), .val (.int dd), .val (.int nn), .val (.ref ba), .unset, .unset, .unset, .unset, .unset, .unset, .unset, .unset, .unset, .unset, .unset] [])) _
          refine own_back (fun t k => XS.iconst Xj1013.here hx rfl (hb hby at_142) k) ?_
          show OwnGo p e below (Tj1013.setTop (mkF m 143 #[.val (.int p1), .val (.int p2), .val (.int p3), .val (.int tt), .val (.int ln), .val (.int dd), .val (.int nn), .val (.ref ba), .unset, .unset, .unset, .unset, .unset, .unset, .unset, .unset, .unset, .unset, .unset] [(.int (0 : Int32))])) _
          refine own_back (fun t k => XS.istore Xj1013.here hx rfl (hb hby at_143) rfl (l' := #[.val (.int p1), .val (.int p2), .val (.int p3), .val (.int tt), .val (.int ln), .val (.int dd), .val (.int nn), .val (.ref ba), .val (.int (0 : Int32)), .unset, .unset, .unset, .unset, .unset, .unset, .unset, .unset, .unset, .unset]) rfl k) ?_
          show OwnGo p e below (Tj1013.setTop (mkF m 145 #[.val (.int p1), .val (.int p2), .val (.int p3), .val (.int tt), .val (.int ln), .val (.int dd), .val (.int nn), .val (.ref ba), .val (.int (0 : Int32)), .unset, .unset, .unset, .unset, .unset, .unset, .unset, .unset, .unset, .unset] [])) _
          refine own_back (fun t k => XS.iconst Xj1013.here hx rfl (hb hby at_145) k) ?_
          show OwnGo p e below (Tj1013.setTop (mkF m 146 #[.val (.int p1), .val (.int p2), .val (.int p3), .val (.int tt), .val (.int ln), .val (.int dd), .val (.int nn), .val (.ref ba), .val (.int (0 : Int32)), .unset, .unset, .unset, .unset, .unset, .unset, .unset, .unset, .unset, .unset] [(.int (0 : Int32))])) _
          refine own_back (fun t k => XS.istore Xj1013.here hx rfl (hb hby at_146) rfl (l' := #[.val (.int p1), .val (.int p2), .val (.int p3), .val (.int tt), .val (.int ln), .val (.int dd), .val (.int nn), .val (.ref ba), .val (.int (0 : Int32)), .val (.int (0 : Int32)), .unset, .unset, .unset, .unset, .unset, .unset, .unset, .unset, .unset]) rfl k) ?_
          show OwnGo p e below (Tj1013.setTop (mkF m 148 #[.val (.int p1), .val (.int p2), .val (.int p3), .val (.int tt), .val (.int ln), .val (.int dd), .val (.int nn), .val (.ref ba), .val (.int (0 : Int32)), .val (.int (0 : Int32)), .unset, .unset, .unset, .unset, .unset, .unset, .unset, .unset, .unset] [])) _
          refine own_back (fun t k => XS.iconst Xj1013.here hx rfl (hb hby at_148) k) ?_
          show OwnGo p e below (Tj1013.setTop (mkF m 149 #[.val (.int p1), .val (.int p2), .val (.int p3), .val (.int tt), .val (.int ln), .val (.int dd), .val (.int nn), .val (.ref ba), .val (.int (0 : Int32)), .val (.int (0 : Int32)), .unset, .unset, .unset, .unset, .unset, .unset, .unset, .unset, .unset] [(.int (0 : Int32))])) _
          refine own_back (fun t k => XS.istore Xj1013.here hx rfl (hb hby at_149) rfl (l' := #[.val (.int p1), .val (.int p2), .val (.int p3), .val (.int tt), .val (.int ln), .val (.int dd), .val (.int nn), .val (.ref ba), .val (.int (0 : Int32)), .val (.int (0 : Int32)), .val (.int (0 : Int32)), .unset, .unset, .unset, .unset, .unset, .unset, .unset, .unset]) rfl k) ?_
          show OwnGo p e below (Tj1013.setTop (mkF m 151 #[.val (.int p1), .val (.int p2), .val (.int p3), .val (.int tt), .val (.int ln), .val (.int dd), .val (.int nn), .val (.ref ba), .val (.int (0 : Int32)), .val (.int (0 : Int32)), .val (.int (0 : Int32)), .unset, .unset, .unset, .unset, .unset, .unset, .unset, .unset] [])) _
          refine own_back (fun t k => XS.iconst Xj1013.here hx rfl (hb hby at_151) k) ?_
          show OwnGo p e below (Tj1013.setTop (mkF m 152 #[.val (.int p1), .val (.int p2), .val (.int p3), .val (.int tt), .val (.int ln), .val (.int dd), .val (.int nn), .val (.ref ba), .val (.int (0 : Int32)), .val (.int (0 : Int32)), .val (.int (0 : Int32)), .unset, .unset, .unset, .unset, .unset, .unset, .unset, .unset] [(.int (0 : Int32))])) _
          refine own_back (fun t k => XS.istore Xj1013.here hx rfl (hb hby at_152) rfl (l' := #[.val (.int p1), .val (.int p2), .val (.int p3), .val (.int tt), .val (.int ln), .val (.int dd), .val (.int nn), .val (.ref ba), .val (.int (0 : Int32)), .val (.int (0 : Int32)), .val (.int (0 : Int32)), .val (.int (0 : Int32)), .unset, .unset, .unset, .unset, .unset, .unset, .unset]) rfl k) ?_
          show OwnGo p e below (Tj1013.setTop (mkF m 154 #[.val (.int p1), .val (.int p2), .val (.int p3), .val (.int tt), .val (.int ln), .val (.int dd), .val (.int nn), .val (.ref ba), .val (.int (0 : Int32)), .val (.int (0 : Int32)), .val (.int (0 : Int32)), .val (.int (0 : Int32)), .unset, .unset, .unset, .unset, .unset, .unset, .unset] [])) _
          refine own_back (fun t k => XS.iconst Xj1013.here hx rfl (hb hby at_154) k) ?_
          show OwnGo p e below (Tj1013.setTop (mkF m 155 #[.val (.int p1), .val (.int p2), .val (.int p3), .val (.int tt), .val (.int ln), .val (.int dd), .val (.int nn), .val (.ref ba), .val (.int (0 : Int32)), .val (.int (0 : Int32)), .val (.int (0 : Int32)), .val (.int (0 : Int32)), .unset, .unset, .unset, .unset, .unset, .unset, .unset] [(.int (0 : Int32))])) _
          refine own_back (fun t k => XS.istore Xj1013.here hx rfl (hb hby at_155) rfl (l' := #[.val (.int p1), .val (.int p2), .val (.int p3), .val (.int tt), .val (.int ln), .val (.int dd), .val (.int nn), .val (.ref ba), .val (.int (0 : Int32)), .val (.int (0 : Int32)), .val (.int (0 : Int32)), .val (.int (0 : Int32)), .val (.int (0 : Int32)), .unset, .unset, .unset, .unset, .unset, .unset]) rfl k) ?_
          show OwnGo p e below (Tj1013.setTop (mkF m 157 #[.val (.int p1), .val (.int p2), .val (.int p3), .val (.int tt), .val (.int ln), .val (.int dd), .val (.int nn), .val (.ref ba), .val (.int (0 : Int32)), .val (.int (0 : Int32)), .val (.int (0 : Int32)), .val (.int (0 : Int32)), .val (.int (0 : Int32)), .unset, .unset, .unset, .unset, .unset, .unset] [])) _
          refine own_back (fun t k => XS.iconst Xj1013.here hx rfl (hb hby at_157) k) ?_
          show OwnGo p e below (Tj1013.setTop (mkF m 158 #[.val (.int p1), .val (.int p2), .val (.int p3), .val (.int tt), .val (.int ln), .val (.int dd), .val (.int nn), .val (.ref ba), .val (.int (0 : Int32)), .val (.int (0 : Int32)), .val (.int (0 : Int32)), .val (.int (0 : Int32)), .val (.int (0 : Int32)), .unset, .unset, .unset, .unset, .unset, .unset] [(.int (0 : Int32))])) _
          refine own_back (fun t k => XS.istore Xj1013.here hx rfl (hb hby at_158) rfl (l' := #[.val (.int p1), .val (.int p2), .val (.int p3), .val (.int tt), .val (.int ln), .val (.int dd), .val (.int nn), .val (.ref ba), .val (.int (0 : Int32)), .val (.int (0 : Int32)), .val (.int (0 : Int32)), .val (.int (0 : Int32)), .val (.int (0 : Int32)), .val (.int (0 : Int32)), .unset, .unset, .unset, .unset, .unset]) rfl k) ?_
          show OwnGo p e below (Tj1013.setTop (mkF m 160 #[.val (.int p1), .val (.int p2), .val (.int p3), .val (.int tt), .val (.int ln), .val (.int dd), .val (.int nn), .val (.ref ba), .val (.int (0 : Int32)), .val (.int (0 : Int32)), .val (.int (0 : Int32)), .val (.int (0 : Int32)), .val (.int (0 : Int32)), .val (.int (0 : Int32)), .unset, .unset, .unset, .unset, .unset] [])) _
          refine own_back (fun t k => XS.iconst Xj1013.here hx rfl (hb hby at_160) k) ?_
          show OwnGo p e below (Tj1013.setTop (mkF m 161 #[.val (.int p1), .val (.int p2), .val (.int p3), .val (.int tt), .val (.int ln), .val (.int dd), .val (.int nn), .val (.ref ba), .val (.int (0 : Int32)), .val (.int (0 : Int32)), .val (.int (0 : Int32)), .val (.int (0 : Int32)), .val (.int (0 : Int32)), .val (.int (0 : Int32)), .unset, .unset, .unset, .unset, .unset] [(.int (0 : Int32))])) _
          refine own_back (fun t k => XS.istore Xj1013.here hx rfl (hb hby at_161) rfl (l' := #[.val (.int p1), .val (.int p2), .val (.int p3), .val (.int tt), .val (.int ln), .val (.int dd), .val (.int nn), .val (.ref ba), .val (.int (0 : Int32)), .val (.int (0 : Int32)), .val (.int (0 : Int32)), .val (.int (0 : Int32)), .val (.int (0 : Int32)), .val (.int (0 : Int32)), .val (.int (0 : Int32)), .unset, .unset, .unset, .unset]) rfl k) ?_
          show OwnGo p e below (Tj1013.setTop (mkF m 163 #[.val (.int p1), .val (.int p2), .val (.int p3), .val (.int tt), .val (.int ln), .val (.int dd), .val (.int nn), .val (.ref ba), .val (.int (0 : Int32)), .val (.int (0 : Int32)), .val (.int (0 : Int32)), .val (.int (0 : Int32)), .val (.int (0 : Int32)), .val (.int (0 : Int32)), .val (.int (0 : Int32)), .unset, .unset, .unset, .unset] [])) _
          refine own_back (fun t k => XS.iload Xj1013.here hx rfl (hb hby at_163) rfl k) ?_
          show OwnGo p e below (Tj1013.setTop (mkF m 165 #[.val (.int p1), .val (.int p2), .val (.int p3), .val (.int tt), .val (.int ln), .val (.int dd), .val (.int nn), .val (.ref ba), .val (.int (0 : Int32)), .val (.int (0 : Int32)), .val (.int (0 : Int32)), .val (.int (0 : Int32)), .val (.int (0 : Int32)), .val (.int (0 : Int32)), .val (.int (0 : Int32)), .unset, .unset, .unset, .unset] [(.int dd)])) _
          have tl232_1014 : ∀ (Tj1014 : State) (hj1014 : Heap) (m0 : Int32) (m1 : Int32) (m2 : Int32) (m3 : Int32) (m4 : Int32) (m5 : Int32) (m6 : Int32), OwnSt p l e room_1 s m #[(.int p1), (.int p2), (.int p3)] below meth c Z own_EL "com/example/indexwright/indexwright/bond/BondVariantOfPinLaw" n0 h0 [] Tj1014 hj1014 1 7 → (Arv Z hj1014 ba kb .char (7 : Int32) [.int c0, .int c1, .int c2, .int c3, .int c4, .int c5, .int c6] (.int 0)) → (∀ y ∈ ([m0, m1, m2, m3, m4, m5, m6] : List Int32), OwnCh y) → OwnGo p e below (Tj1014.setTop (mkF m 232 #[.val (.int p1), .val (.int p2), .val (.int p3), .val (.int tt), .val (.int ln), .val (.int dd), .val (.int nn), .val (.ref ba), .val (.int m0), .val (.int m1), .val (.int m2), .val (.int m3), .val (.int m4), .val (.int m5), .val (.int m6), .unset, .unset, .unset, .unset] [])) (OwnEndW Z own_EL s (fun v h L => v = some (.int 1) ∧ Fr n0 L) room_1.cells room_1.slots) := by
            intro Tj1014 hj1014 m0 m1 m2 m3 m4 m5 m6 HS1014 hs1014_0 hms
            obtain ⟨vj1014, kj1014, Lj1014, Xj1014, ej1014, hSj1014, hkj1014, hZj1014, hownj1014, CRj1014, Oj1014, KPj1014, Zj1014, Nj1014⟩ := HS1014
            show OwnGo p e below (Tj1014.setTop (mkF m 232 #[.val (.int p1), .val (.int p2), .val (.int p3), .val (.int tt), .val (.int ln), .val (.int dd), .val (.int nn), .val (.ref ba), .val (.int m0), .val (.int m1), .val (.int m2), .val (.int m3), .val (.int m4), .val (.int m5), .val (.int m6), .unset, .unset, .unset, .unset] [])) _
            refine own_back (fun t k => XS.bipush Xj1014.here hx rfl (hb hby at_232) k) ?_
            show OwnGo p e below (Tj1014.setTop (mkF m 234 #[.val (.int p1), .val (.int p2), .val (.int p3), .val (.int tt), .val (.int ln), .val (.int dd), .val (.int nn), .val (.ref ba), .val (.int m0), .val (.int m1), .val (.int m2), .val (.int m3), .val (.int m4), .val (.int m5), .val (.int m6), .unset, .unset, .unset, .unset] [(.int (7 : Int32))])) _
            obtain ⟨T1015, h1015, k1015, X1015, e1015, E1015, A1015, st1015⟩ := newP Xj1014 hx hZj1014 (hw _ (List.mem_of_getElem? (i := 0) rfl)) ej1014 (g := (mkF m 234 #[.val (.int p1), .val (.int p2), .val (.int p3), .val (.int tt), .val (.int ln), .val (.int dd), .val (.int nn), .val (.ref ba), .val (.int m0), .val (.int m1), .val (.int m2), .val (.int m3), .val (.int m4), .val (.int m5), .val (.int m6), .unset, .unset, .unset, .unset] [(.int (7 : Int32))])) rfl (hb hby at_234) rfl (by decide) (cap := 7) (by decide) (by decide) (Nat.le_of_ble_eq_true rfl) (Nat.le_of_ble_eq_true rfl)
            obtain ⟨b1015, g1015⟩ : ∃ z, z = hj1014.size := ⟨_, rfl⟩
            have ge1016 : n0 ≤ b1015 := Nat.le_trans Zj1014 (Nat.le_of_eq g1015.symm)
            have sz1017 : h0.size ≤ b1015 := Nat.le_trans KPj1014.1 (Nat.le_of_eq g1015.symm)
            rw [← g1015] at A1015 st1015
            have O1018 := Oj1014.ext E1015
            have KP1019 := KPj1014.ext E1015
            have Zs1020 := Nat.le_trans Zj1014 E1015.1
            have CR1021 := CRj1014.trans (CHr.ext E1015 CRj1014.1)
            have hk1022 := Nat.le_trans hkj1014 E1015.1
            have f1023 := hs1014_0.ext E1015
            have V1024 : Arv Z h1015 b1015 k1015 .char (7 : Int32) [(.int (0 : Int32)), (.int (0 : Int32)), (.int (0 : Int32)), (.int (0 : Int32)), (.int (0 : Int32)), (.int (0 : Int32)), (.int (0 : Int32))] (.int (0 : Int32)) := (Arv.new A1015 (by decide)).pad (pad_rep [] (.int (0 : Int32)) 7)
            have sf1025 := Safe.ext E1015 CRj1014.1 (Safe.new (Nat.le_of_eq g1015.symm))
            refine own_back st1015 ?_
            show OwnGo p e below (T1015.setTop (mkF m 236 #[.val (.int p1), .val (.int p2), .val (.int p3), .val (.int tt), .val (.int ln), .val (.int dd), .val (.int nn), .val (.ref ba), .val (.int m0), .val (.int m1), .val (.int m2), .val (.int m3), .val (.int m4), .val (.int m5), .val (.int m6), .unset, .unset, .unset, .unset] [(.ref b1015)])) _
            have tl324_1026 : ∀ (Tj1026 : State) (hj1026 : Heap) (fa : Addr) (kf : ClassId) (f0 : Int32) (f1 : Int32) (f2 : Int32) (f3 : Int32) (f4 : Int32) (f5 : Int32) (f6 : Int32), OwnSt p l e room_1 s m #[(.int p1), (.int p2), (.int p3)] below meth c Z own_EL "com/example/indexwright/indexwright/bond/BondVariantOfPinLaw" n0 h0 [] Tj1026 hj1026 2 14 → (Arv Z hj1026 fa kf .char (7 : Int32) [.int f0, .int f1, .int f2, .int f3, .int f4, .int f5, .int f6] (.int 0)) → (∀ y ∈ ([f0, f1, f2, f3, f4, f5, f6] : List Int32), OwnCh y) → OwnGo p e below (Tj1026.setTop (mkF m 324 #[.val (.int p1), .val (.int p2), .val (.int p3), .val (.int tt), .val (.int ln), .val (.int dd), .val (.int nn), .val (.ref ba), .val (.int m0), .val (.int m1), .val (.int m2), .val (.int m3), .val (.int m4), .val (.int m5), .val (.int m6), .val (.ref fa), .unset, .unset, .unset] [])) (OwnEndW Z own_EL s (fun v h L => v = some (.int 1) ∧ Fr n0 L) room_1.cells room_1.slots) := by
              intro Tj1026 hj1026 fa kf f0 f1 f2 f3 f4 f5 f6 HS1026 hs1026_0 hfs
              obtain ⟨vj1026, kj1026, Lj1026, Xj1026, ej1026, hSj1026, hkj1026, hZj1026, hownj1026, CRj1026, Oj1026, KPj1026, Zj1026, Nj1026⟩ := HS1026
              show OwnGo p e below (Tj1026.setTop (mkF m 324 #[.val (.int p1), .val (.int p2), .val (.int p3), .val (.int tt), .val (.int ln), .val (.int dd), .val (.int nn), .val (.ref ba), .val (.int m0), .val (.int m1), .val (.int m2), .val (.int m3), .val (.int m4), .val (.int m5), .val (.int m6), .val (.ref fa), .unset, .unset, .unset] [])) _
              refine own_back (fun t k => XS.iload Xj1026.here hx rfl (hb hby at_324) rfl k) ?_
              show OwnGo p e below (Tj1026.setTop (mkF m 326 #[.val (.int p1), .val (.int p2), .val (.int p3), .val (.int tt), .val (.int ln), .val (.int dd), .val (.int nn), .val (.ref ba), .val (.int m0), .val (.int m1), .val (.int m2), .val (.int m3), .val (.int m4), .val (.int m5), .val (.int m6), .val (.ref fa), .unset, .unset, .unset] [(.int nn)])) _
              by_cases hc326_1027 : nn = (0 : Int32)
              · refine own_back (fun t k => XS.ifYes Xj1026.here hx rfl (pc0 := 326) (pc' := 333) rfl (hb hby at_326) rfl (Jvm.Free.XT.i0_eq_t hc326_1027) (by decide) (by decide) k) ?_
                show OwnGo p e below (Tj1026.setTop (mkF m 333 #[.val (.int p1), .val (.int p2), .val (.int p3), .val (.int tt), .val (.int ln), .val (.int dd), .val (.int nn), .val (.ref ba), .val (.int m0), .val (.int m1), .val (.int m2), .val (.int m3), .val (.int m4), .val (.int m5), .val (.int m6), .val (.ref fa), .unset, .unset, .unset] [])) _
                refine own_back (fun t k => XS.aload Xj1026.here hx rfl (hb hby at_333) rfl rfl k) ?_
                show OwnGo p e below (Tj1026.setTop (mkF m 335 #[.val (.int p1), .val (.int p2), .val (.int p3), .val (.int tt), .val (.int ln), .val (.int dd), .val (.int nn), .val (.ref ba), .val (.int m0), .val (.int m1), .val (.int m2), .val (.int m3), .val (.int m4), .val (.int m5), .val (.int m6), .val (.ref fa), .unset, .unset, .unset] [(.ref fa)])) _
                refine own_back (fun t k => XS.iload Xj1026.here hx rfl (hb hby at_335) rfl k) ?_
                show OwnGo p e below (Tj1026.setTop (mkF m 337 #[.val (.int p1), .val (.int p2), .val (.int p3), .val (.int tt), .val (.int ln), .val (.int dd), .val (.int nn), .val (.ref ba), .val (.int m0), .val (.int m1), .val (.int m2), .val (.int m3), .val (.int m4), .val (.int m5), .val (.int m6), .val (.ref fa), .unset, .unset, .unset] [(.int ln), (.ref fa)])) _
                obtain ⟨_, _, ⟨T1028, L1028, k1028, n1028⟩, -, X1028, hSn1028, hgr1028, ⟨Lc1028, hQ1028, l1028, y1028, z1028, CRn1028⟩, st1028⟩ := callSS Xj1026 hx (y := (⟨"com/example/indexwright/indexwright/bond/BondVariantOfPinLaw", "make", "([CI)Ljava/lang/String;"⟩ : MethodName)) hownj1026 (mvT hZj1026 (hw _ (List.mem_of_getElem? (i := 1) rfl))) (mvT hZj1026 (hw _ (List.mem_of_getElem? (i := 2) rfl))) (mvT hZj1026 (hw _ (List.mem_of_getElem? (i := 3) rfl))) (mvT hZj1026 (hw _ (List.mem_of_getElem? (i := 4) rfl))) (by decide) (own_backH (W := 0) (rm_mk l Z a0 hw [] fa ln kf f0 f1 f2 f3 f4 f5 f6 cz hj1026 n0 Zj1026 Oj1026 hs1026_0 (hfs _ (List.mem_of_getElem? (i := 0) rfl)) (hfs _ (List.mem_of_getElem? (i := 1) rfl)) (hfs _ (List.mem_of_getElem? (i := 2) rfl)) (hfs _ (List.mem_of_getElem? (i := 3) rfl)) (hfs _ (List.mem_of_getElem? (i := 4) rfl)) (hfs _ (List.mem_of_getElem? (i := 5) rfl)) (hfs _ (List.mem_of_getElem? (i := 6) rfl)) SC hcz) hZj1026 (hw _ (List.mem_of_getElem? (i := 4) rfl)) (hw _ (List.mem_of_getElem? (i := 3) rfl)) (by decide) (by decide) hEL CRj1026.1 sf0 all0) (g := (mkF m 337 #[.val (.int p1), .val (.int p2), .val (.int p3), .val (.int tt), .val (.int ln), .val (.int dd), .val (.int nn), .val (.ref ba), .val (.int m0), .val (.int m1), .val (.int m2), .val (.int m3), .val (.int m4), .val (.int m5), .val (.int m6), .val (.ref fa), .unset, .unset, .unset] [(.int ln), (.ref fa)])) rfl (by rw [hml]; rfl) (argsL := [(.ref fa), (.int ln)]) (rest := []) (lenOf lw_pd0 rfl) rfl (by show 2 * 0 + _ ≤ _; exact Nat.le_of_eq rfl) (hb hby at_337) (fun _ _ => ⟨rfl, ej1026, Nat.le_of_ble_eq_true rfl, Nat.le_of_ble_eq_true rfl⟩)
                dsimp only [Pt.U, Pt.locs, Pt.cells, Pt.slots] at X1028 l1028 y1028 z1028 st1028 hQ1028 hSn1028 hgr1028 CRn1028
                subst l1028 y1028 z1028
                obtain ⟨Xr1028, hSr1028, hZr1028, hownr1028⟩ := rebS hSj1026 (own_hle ej1026 hkj1026) X1028 hSn1028 hgr1028 hZj1026 hownj1026
                obtain ⟨am1028, rfl, N1028q, E1028, B1028⟩ := hQ1028
                refine own_seq st1028 ?_
                have N1028 := Fr.app Nj1026 N1028q
                have O1029 := Oj1026.ext E1028
                have KP1030 := KPj1026.ext E1028
                have Zs1031 := Nat.le_trans Zj1026 E1028.1
                have CR1032 := CRj1026.trans CRn1028
                have f1033 := hs1026_0.ext E1028
                show OwnGo p e below (T1028.setTop (mkF m 340 #[.val (.int p1), .val (.int p2), .val (.int p3), .val (.int tt), .val (.int ln), .val (.int dd), .val (.int nn), .val (.ref ba), .val (.int m0), .val (.int m1), .val (.int m2), .val (.int m3), .val (.int m4), .val (.int m5), .val (.int m6), .val (.ref fa), .unset, .unset, .unset] [(.ref am1028)])) _
                refine own_back (fun t k => XS.astore Xr1028.here hx rfl (hb hby at_340) rfl rfl (l' := #[.val (.int p1), .val (.int p2), .val (.int p3), .val (.int tt), .val (.int ln), .val (.int dd), .val (.int nn), .val (.ref ba), .val (.int m0), .val (.int m1), .val (.int m2), .val (.int m3), .val (.int m4), .val (.int m5), .val (.int m6), .val (.ref fa), .val (.ref am1028), .unset, .unset]) rfl k) ?_
                show OwnGo p e below (T1028.setTop (mkF m 342 #[.val (.int p1), .val (.int p2), .val (.int p3), .val (.int tt), .val (.int ln), .val (.int dd), .val (.int nn), .val (.ref ba), .val (.int m0), .val (.int m1), .val (.int m2), .val (.int m3), .val (.int m4), .val (.int m5), .val (.int m6), .val (.ref fa), .val (.ref am1028), .unset, .unset] [])) _
                refine own_back (fun t k => XS.aload Xr1028.here hx rfl (hb hby at_342) rfl rfl k) ?_
                show OwnGo p e below (T1028.setTop (mkF m 344 #[.val (.int p1), .val (.int p2), .val (.int p3), .val (.int tt), .val (.int ln), .val (.int dd), .val (.int nn), .val (.ref ba), .val (.int m0), .val (.int m1), .val (.int m2), .val (.int m3), .val (.int m4), .val (.int m5), .val (.int m6), .val (.ref fa), .val (.ref am1028), .unset, .unset] [(.ref am1028)])) _
                by_cases hP : ([112, 114, 105, 99, 101] : List Int32) = (own_mk f0 f1 f2 f3 f4 f5 f6 ln)
                · obtain ⟨_, _, ⟨T1034, L1034, k1034, n1034⟩, -, X1034, ⟨Lc1034, hQ1034, l1034, y1034, z1034⟩, st1034⟩ := Jvm.LawKit.callS Xr1028 hx (y := (⟨"com/example/indexwright/indexwright/bond/BondVariant", "of", "(Ljava/lang/String;)Lcom/example/indexwright/indexwright/bond/BondVariant;"⟩ : MethodName)) hownr1028 (mvT hZr1028 (hw _ (List.mem_of_getElem? (i := 26) rfl))) (mvT hZr1028 (hw _ (List.mem_of_getElem? (i := 27) rfl))) (mvT hZr1028 (hw _ (List.mem_of_getElem? (i := 28) rfl))) (mvT hZr1028 (hw _ (List.mem_of_getElem? (i := 29) rfl))) (by decide) (own_backN (W := 0) (rm_of l Z a0 hw [] am1028 (own_mk f0 f1 f2 f3 f4 f5 f6 ln) wP wT wV kV kP kT cz T1028.heap n0 Zs1031 O1029 B1028 SV AV EV FV FP FT BP BT SC hcz) hZr1028 (hw _ (List.mem_of_getElem? (i := 29) rfl)) (hw _ (List.mem_of_getElem? (i := 28) rfl)) (by decide) (by decide)) (g := (mkF m 344 #[.val (.int p1), .val (.int p2), .val (.int p3), .val (.int tt), .val (.int ln), .val (.int dd), .val (.int nn), .val (.ref ba), .val (.int m0), .val (.int m1), .val (.int m2), .val (.int m3), .val (.int m4), .val (.int m5), .val (.int m6), .val (.ref fa), .val (.ref am1028), .unset, .unset] [(.ref am1028)])) rfl (by rw [hml]; rfl) (argsL := [(.ref am1028)]) (rest := []) (lenOf lw_pd1 rfl) rfl (by show 2 * 0 + _ ≤ _; exact Nat.le_of_eq rfl) (hb hby at_344) (fun _ _ => ⟨rfl, rfl, Nat.le_of_ble_eq_true rfl, Nat.le_of_ble_eq_true rfl⟩)
                  dsimp only [Pt.U, Pt.locs, Pt.cells, Pt.slots] at X1034 l1034 y1034 z1034 st1034 hQ1034
                  subst l1034 y1034 z1034
                  rw [if_pos hP] at hQ1034
                  obtain ⟨rfl, N1034q, E1034⟩ := hQ1034
                  refine own_back st1034 ?_
                  have N1034 := Fr.app N1028 N1034q
                  have O1035 := O1029.ext E1034
                  have KP1036 := KP1030.ext E1034
                  have Zs1037 := Nat.le_trans Zs1031 E1034.1
                  have CR1038 := CR1032.trans (CHr.ext E1034 CR1032.1)
                  have hk1039 := Nat.le_trans (Nat.le_refl _) E1034.1
                  have f1040 := f1033.ext E1034
                  have f1041 := B1028.ext E1034
                  show OwnGo p e below (T1034.setTop (mkF m 347 #[.val (.int p1), .val (.int p2), .val (.int p3), .val (.int tt), .val (.int ln), .val (.int dd), .val (.int nn), .val (.ref ba), .val (.int m0), .val (.int m1), .val (.int m2), .val (.int m3), .val (.int m4), .val (.int m5), .val (.int m6), .val (.ref fa), .val (.ref am1028), .unset, .unset] [(.ref wP)])) _
                  refine own_back (fun t k => XS.astore X1034.here hx rfl (hb hby at_347) rfl rfl (l' := #[.val (.int p1), .val (.int p2), .val (.int p3), .val (.int tt), .val (.int ln), .val (.int dd), .val (.int nn), .val (.ref ba), .val (.int m0), .val (.int m1), .val (.int m2), .val (.int m3), .val (.int m4), .val (.int m5), .val (.int m6), .val (.ref fa), .val (.ref am1028), .val (.ref wP), .unset]) rfl k) ?_
                  show OwnGo p e below (T1034.setTop (mkF m 349 #[.val (.int p1), .val (.int p2), .val (.int p3), .val (.int tt), .val (.int ln), .val (.int dd), .val (.int nn), .val (.ref ba), .val (.int m0), .val (.int m1), .val (.int m2), .val (.int m3), .val (.int m4), .val (.int m5), .val (.int m6), .val (.ref fa), .val (.ref am1028), .val (.ref wP), .unset] [])) _
                  refine own_back (fun t k => XS.aconstNull X1034.here hx rfl (hb hby at_349) k) ?_
                  show OwnGo p e below (T1034.setTop (mkF m 350 #[.val (.int p1), .val (.int p2), .val (.int p3), .val (.int tt), .val (.int ln), .val (.int dd), .val (.int nn), .val (.ref ba), .val (.int m0), .val (.int m1), .val (.int m2), .val (.int m3), .val (.int m4), .val (.int m5), .val (.int m6), .val (.ref fa), .val (.ref am1028), .val (.ref wP), .unset] [.null])) _
                  refine own_back (fun t k => XS.astore X1034.here hx rfl (hb hby at_350) rfl rfl (l' := #[.val (.int p1), .val (.int p2), .val (.int p3), .val (.int tt), .val (.int ln), .val (.int dd), .val (.int nn), .val (.ref ba), .val (.int m0), .val (.int m1), .val (.int m2), .val (.int m3), .val (.int m4), .val (.int m5), .val (.int m6), .val (.ref fa), .val (.ref am1028), .val (.ref wP), .val .null]) rfl k) ?_
                  show OwnGo p e below (T1034.setTop (mkF m 352 #[.val (.int p1), .val (.int p2), .val (.int p3), .val (.int tt), .val (.int ln), .val (.int dd), .val (.int nn), .val (.ref ba), .val (.int m0), .val (.int m1), .val (.int m2), .val (.int m3), .val (.int m4), .val (.int m5), .val (.int m6), .val (.ref fa), .val (.ref am1028), .val (.ref wP), .val .null] [])) _
                  refine own_back (fun t k => XS.iload X1034.here hx rfl (hb hby at_352) rfl k) ?_
                  show OwnGo p e below (T1034.setTop (mkF m 354 #[.val (.int p1), .val (.int p2), .val (.int p3), .val (.int tt), .val (.int ln), .val (.int dd), .val (.int nn), .val (.ref ba), .val (.int m0), .val (.int m1), .val (.int m2), .val (.int m3), .val (.int m4), .val (.int m5), .val (.int m6), .val (.ref fa), .val (.ref am1028), .val (.ref wP), .val .null] [(.int nn)])) _
                  refine own_back (fun t k => XS.ifNo X1034.here hx rfl (hb hby at_354) rfl (Jvm.Free.XT.i0_ne_f hc326_1027) k) ?_
                  show OwnGo p e below (T1034.setTop (mkF m 357 #[.val (.int p1), .val (.int p2), .val (.int p3), .val (.int tt), .val (.int ln), .val (.int dd), .val (.int nn), .val (.ref ba), .val (.int m0), .val (.int m1), .val (.int m2), .val (.int m3), .val (.int m4), .val (.int m5), .val (.int m6), .val (.ref fa), .val (.ref am1028), .val (.ref wP), .val .null] [])) _
                  refine own_back (fun t k => XS.iload X1034.here hx rfl (hb hby at_357) rfl k) ?_
                  show OwnGo p e below (T1034.setTop (mkF m 359 #[.val (.int p1), .val (.int p2), .val (.int p3), .val (.int tt), .val (.int ln), .val (.int dd), .val (.int nn), .val (.ref ba), .val (.int m0), .val (.int m1), .val (.int m2), .val (.int m3), .val (.int m4), .val (.int m5), .val (.int m6), .val (.ref fa), .val (.ref am1028), .val (.ref wP), .val .null] [(.int ln)])) _
                  refine own_back (fun t k => XS.iconst X1034.here hx rfl (hb hby at_359) k) ?_
                  show OwnGo p e below (T1034.setTop (mkF m 360 #[.val (.int p1), .val (.int p2), .val (.int p3), .val (.int tt), .val (.int ln), .val (.int dd), .val (.int nn), .val (.ref ba), .val (.int m0), .val (.int m1), .val (.int m2), .val (.int m3), .val (.int m4), .val (.int m5), .val (.int m6), .val (.ref fa), .val (.ref am1028), .val (.ref wP), .val .null] [(.int (5 : Int32)), (.int ln)])) _
                  refine own_back (fun t k => XS.icmpNo X1034.here hx rfl (hb hby at_360) rfl (Jvm.Free.XT.ii_ne_f (own_of5 hP).1) k) ?_
                  show OwnGo p e below (T1034.setTop (mkF m 363 #[.val (.int p1), .val (.int p2), .val (.int p3), .val (.int tt), .val (.int ln), .val (.int dd), .val (.int nn), .val (.ref ba), .val (.int m0), .val (.int m1), .val (.int m2), .val (.int m3), .val (.int m4), .val (.int m5), .val (.int m6), .val (.ref fa), .val (.ref am1028), .val (.ref wP), .val .null] [])) _
                  refine own_back (fun t k => XS.aload X1034.here hx rfl (hb hby at_363) rfl rfl k) ?_
                  show OwnGo p e below (T1034.setTop (mkF m 365 #[.val (.int p1), .val (.int p2), .val (.int p3), .val (.int tt), .val (.int ln), .val (.int dd), .val (.int nn), .val (.ref ba), .val (.int m0), .val (.int m1), .val (.int m2), .val (.int m3), .val (.int m4), .val (.int m5), .val (.int m6), .val (.ref fa), .val (.ref am1028), .val (.ref wP), .val .null] [(.ref fa)])) _
                  refine own_back (fun t k => XS.iconst X1034.here hx rfl (hb hby at_365) k) ?_
                  show OwnGo p e below (T1034.setTop (mkF m 366 #[.val (.int p1), .val (.int p2), .val (.int p3), .val (.int tt), .val (.int ln), .val (.int dd), .val (.int nn), .val (.ref ba), .val (.int m0), .val (.int m1), .val (.int m2), .val (.int m3), .val (.int m4), .val (.int m5), .val (.int m6), .val (.ref fa), .val (.ref am1028), .val (.ref wP), .val .null] [(.int (0 : Int32)), (.ref fa)])) _
                  obtain ⟨c1042, A1042, q1042, S1042, M1042, H1042, U1042⟩ := id f1040
                  have ib1043 : ¬ ((0 : Int32) < 0 ∨ c1042.slots.size ≤ ((0 : Int32)).toNatClampNeg) := (inb_of S1042 ⟨by decide, by decide⟩)
                  refine own_back (fun t k => X1034.caload hx (j := (0 : Int32)) (v := (.int f0)) (own_hat rfl A1042.1) (State.isArrayOf_alike hZr1028.alike A1042.2.1) A1042.2.2 ib1043 (H1042.at ib1043 rfl) (g := (mkF m 366 #[.val (.int p1), .val (.int p2), .val (.int p3), .val (.int tt), .val (.int ln), .val (.int dd), .val (.int nn), .val (.ref ba), .val (.int m0), .val (.int m1), .val (.int m2), .val (.int m3), .val (.int m4), .val (.int m5), .val (.int m6), .val (.ref fa), .val (.ref am1028), .val (.ref wP), .val .null] [(.int (0 : Int32)), (.ref fa)])) rfl rfl (hb hby at_366) t k) ?_
                  show OwnGo p e below (T1034.setTop (mkF m 367 #[.val (.int p1), .val (.int p2), .val (.int p3), .val (.int tt), .val (.int ln), .val (.int dd), .val (.int nn), .val (.ref ba), .val (.int m0), .val (.int m1), .val (.int m2), .val (.int m3), .val (.int m4), .val (.int m5), .val (.int m6), .val (.ref fa), .val (.ref am1028), .val (.ref wP), .val .null] [(.int f0)])) _
                  refine own_back (fun t k => XS.bipush X1034.here hx rfl (hb hby at_367) k) ?_
                  show OwnGo p e below (T1034.setTop (mkF m 369 #[.val (.int p1), .val (.int p2), .val (.int p3), .val (.int tt), .val (.int ln), .val (.int dd), .val (.int nn), .val (.ref ba), .val (.int m0), .val (.int m1), .val (.int m2), .val (.int m3), .val (.int m4), .val (.int m5), .val (.int m6), .val (.ref fa), .val (.ref am1028), .val (.ref wP), .val .null] [(.int (112 : Int32)), (.int f0)])) _
                  refine own_back (fun t k => XS.icmpNo X1034.here hx rfl (hb hby at_369) rfl (Jvm.Free.XT.ii_ne_f (own_bk (hfs _ (List.mem_of_getElem? (i := 0) rfl)) (by decide) (own_of5 hP).2.1)) k) ?_
                  show OwnGo p e below (T1034.setTop (mkF m 372 #[.val (.int p1), .val (.int p2), .val (.int p3), .val (.int tt), .val (.int ln), .val (.int dd), .val (.int nn), .val (.ref ba), .val (.int m0), .val (.int m1), .val (.int m2), .val (.int m3), .val (.int m4), .val (.int m5), .val (.int m6), .val (.ref fa), .val (.ref am1028), .val (.ref wP), .val .null] [])) _
                  refine own_back (fun t k => XS.aload X1034.here hx rfl (hb hby at_372) rfl rfl k) ?_
                  show OwnGo p e below (T1034.setTop (mkF m 374 #[.val (.int p1), .val (.int p2), .val (.int p3), .val (.int tt), .val (.int ln), .val (.int dd), .val (.int nn), .val (.ref ba), .val (.int m0), .val (.int m1), .val (.int m2), .val (.int m3), .val (.int m4), .val (.int m5), .val (.int m6), .val (.ref fa), .val (.ref am1028), .val (.ref wP), .val .null] [(.ref fa)])) _
                  refine own_back (fun t k => XS.iconst X1034.here hx rfl (hb hby at_374) k) ?_
                  show OwnGo p e below (T1034.setTop (mkF m 375 #[.val (.int p1), .val (.int p2), .val (.int p3), .val (.int tt), .val (.int ln), .val (.int dd), .val (.int nn), .val (.ref ba), .val (.int m0), .val (.int m1), .val (.int m2), .val (.int m3), .val (.int m4), .val (.int m5), .val (.int m6), .val (.ref fa), .val (.ref am1028), .val (.ref wP), .val .null] [(.int (1 : Int32)), (.ref fa)])) _
                  obtain ⟨c1044, A1044, q1044, S1044, M1044, H1044, U1044⟩ := id f1040
                  have ib1045 : ¬ ((1 : Int32) < 0 ∨ c1044.slots.size ≤ ((1 : Int32)).toNatClampNeg) := (inb_of S1044 ⟨by decide, by decide⟩)
                  refine own_back (fun t k => X1034.caload hx (j := (1 : Int32)) (v := (.int f1)) (own_hat rfl A1044.1) (State.isArrayOf_alike hZr1028.alike A1044.2.1) A1044.2.2 ib1045 (H1044.at ib1045 rfl) (g := (mkF m 375 #[.val (.int p1), .val (.int p2), .val (.int p3), .val (.int tt), .val (.int ln), .val (.int dd), .val (.int nn), .val (.ref ba), .val (.int m0), .val (.int m1), .val (.int m2), .val (.int m3), .val (.int m4), .val (.int m5), .val (.int m6), .val (.ref fa), .val (.ref am1028), .val (.ref wP), .val .null] [(.int (1 : Int32)), (.ref fa)])) rfl rfl (hb hby at_375) t k) ?_
                  show OwnGo p e below (T1034.setTop (mkF m 376 #[.val (.int p1), .val (.int p2), .val (.int p3), .val (.int tt), .val (.int ln), .val (.int dd), .val (.int nn), .val (.ref ba), .val (.int m0), .val (.int m1), .val (.int m2), .val (.int m3), .val (.int m4), .val (.int m5), .val (.int m6), .val (.ref fa), .val (.ref am1028), .val (.ref wP), .val .null] [(.int f1)])) _
                  refine own_back (fun t k => XS.bipush X1034.here hx rfl (hb hby at_376) k) ?_
                  show OwnGo p e below (T1034.setTop (mkF m 378 #[.val (.int p1), .val (.int p2), .val (.int p3), .val (.int tt), .val (.int ln), .val (.int dd), .val (.int nn), .val (.ref ba), .val (.int m0), .val (.int m1), .val (.int m2), .val (.int m3), .val (.int m4), .val (.int m5), .val (.int m6), .val (.ref fa), .val (.ref am1028), .val (.ref wP), .val .null] [(.int (114 : Int32)), (.int f1)])) _
                  refine own_back (fun t k => XS.icmpNo X1034.here hx rfl (hb hby at_378) rfl (Jvm.Free.XT.ii_ne_f (own_bk (hfs _ (List.mem_of_getElem? (i := 1) rfl)) (by decide) (own_of5 hP).2.2.1)) k) ?_
                  show OwnGo p e below (T1034.setTop (mkF m 381 #[.val (.int p1), .val (.int p2), .val (.int p3), .val (.int tt), .val (.int ln), .val (.int dd), .val (.int nn), .val (.ref ba), .val (.int m0), .val (.int m1), .val (.int m2), .val (.int m3), .val (.int m4), .val (.int m5), .val (.int m6), .val (.ref fa), .val (.ref am1028), .val (.ref wP), .val .null] [])) _
                  refine own_back (fun t k => XS.aload X1034.here hx rfl (hb hby at_381) rfl rfl k) ?_
                  show OwnGo p e below (T1034.setTop (mkF m 383 #[.val (.int p1), .val (.int p2), .val (.int p3), .val (.int tt), .val (.int ln), .val (.int dd), .val (.int nn), .val (.ref ba), .val (.int m0), .val (.int m1), .val (.int m2), .val (.int m3), .val (.int m4), .val (.int m5), .val (.int m6), .val (.ref fa), .val (.ref am1028), .val (.ref wP), .val .null] [(.ref fa)])) _
                  refine own_back (fun t k => XS.iconst X1034.here hx rfl (hb hby at_383) k) ?_
                  show OwnGo p e below (T1034.setTop (mkF m 384 #[.val (.int p1), .val (.int p2), .val (.int p3), .val (.int tt), .val (.int ln), .val (.int dd), .val (.int nn), .val (.ref ba), .val (.int m0), .val (.int m1), .val (.int m2), .val (.int m3), .val (.int m4), .val (.int m5), .val (.int m6), .val (.ref fa), .val (.ref am1028), .val (.ref wP), .val .null] [(.int (2 : Int32)), (.ref fa)])) _
                  obtain ⟨c1046, A1046, q1046, S1046, M1046, H1046, U1046⟩ := id f1040
                  have ib1047 : ¬ ((2 : Int32) < 0 ∨ c1046.slots.size ≤ ((2 : Int32)).toNatClampNeg) := (inb_of S1046 ⟨by decide, by decide⟩)
                  refine own_back (fun t k => X1034.caload hx (j := (2 : Int32)) (v := (.int f2)) (own_hat rfl A1046.1) (State.isArrayOf_alike hZr1028.alike A1046.2.1) A1046.2.2 ib1047 (H1046.at ib1047 rfl) (g := (mkF m 384 #[.val (.int p1), .val (.int p2), .val (.int p3), .val (.int tt), .val (.int ln), .val (.int dd), .val (.int nn), .val (.ref ba), .val (.int m0), .val (.int m1), .val (.int m2), .val (.int m3), .val (.int m4), .val (.int m5), .val (.int m6), .val (.ref fa), .val (.ref am1028), .val (.ref wP), .val .null] [(.int (2 : Int32)), (.ref fa)])) rfl rfl (hb hby at_384) t k) ?_
                  show OwnGo p e below (T1034.setTop (mkF m 385 #[.val (.int p1), .val (.int p2), .val (.int p3), .val (.int tt), .val (.int ln), .val (.int dd), .val (.int nn), .val (.ref ba), .val (.int m0), .val (.int m1), .val (.int m2), .val (.int m3), .val (.int m4), .val (.int m5), .val (.int m6), .val (.ref fa), .val (.ref am1028), .val (.ref wP), .val .null] [(.int f2)])) _
                  refine own_back (fun t k => XS.bipush X1034.here hx rfl (hb hby at_385) k) ?_
                  show OwnGo p e below (T1034.setTop (mkF m 387 #[.val (.int p1), .val (.int p2), .val (.int p3), .val (.int tt), .val (.int ln), .val (.int dd), .val (.int nn), .val (.ref ba), .val (.int m0), .val (.int m1), .val (.int m2), .val (.int m3), .val (.int m4), .val (.int m5), .val (.int m6), .val (.ref fa), .val (.ref am1028), .val (.ref wP), .val .null] [(.int (105 : Int32)), (.int f2)])) _
                  refine own_back (fun t k => XS.icmpNo X1034.here hx rfl (hb hby at_387) rfl (Jvm.Free.XT.ii_ne_f (own_bk (hfs _ (List.mem_of_getElem? (i := 2) rfl)) (by decide) (own_of5 hP).2.2.2.1)) k) ?_
                  show OwnGo p e below (T1034.setTop (mkF m 390 #[.val (.int p1), .val (.int p2), .val (.int p3), .val (.int tt), .val (.int ln), .val (.int dd), .val (.int nn), .val (.ref ba), .val (.int m0), .val (.int m1), .val (.int m2), .val (.int m3), .val (.int m4), .val (.int m5), .val (.int m6), .val (.ref fa), .val (.ref am1028), .val (.ref wP), .val .null] [])) _
                  refine own_back (fun t k => XS.aload X1034.here hx rfl (hb hby at_390) rfl rfl k) ?_
                  show OwnGo p e below (T1034.setTop (mkF m 392 #[.val (.int p1), .val (.int p2), .val (.int p3), .val (.int tt), .val (.int ln), .val (.int dd), .val (.int nn), .val (.ref ba), .val (.int m0), .val (.int m1), .val (.int m2), .val (.int m3), .val (.int m4), .val (.int m5), .val (.int m6), .val (.ref fa), .val (.ref am1028), .val (.ref wP), .val .null] [(.ref fa)])) _
                  refine own_back (fun t k => XS.iconst X1034.here hx rfl (hb hby at_392) k) ?_
                  show OwnGo p e below (T1034.setTop (mkF m 393 #[.val (.int p1), .val (.int p2), .val (.int p3), .val (.int tt), .val (.int ln), .val (.int dd), .val (.int nn), .val (.ref ba), .val (.int m0), .val (.int m1), .val (.int m2), .val (.int m3), .val (.int m4), .val (.int m5), .val (.int m6), .val (.ref fa), .val (.ref am1028), .val (.ref wP), .val .null] [(.int (3 : Int32)), (.ref fa)])) _
                  obtain ⟨c1048, A1048, q1048, S1048, M1048, H1048, U1048⟩ := id f1040
                  have ib1049 : ¬ ((3 : Int32) < 0 ∨ c1048.slots.size ≤ ((3 : Int32)).toNatClampNeg) := (inb_of S1048 ⟨by decide, by decide⟩)
                  refine own_back (fun t k => X1034.caload hx (j := (3 : Int32)) (v := (.int f3)) (own_hat rfl A1048.1) (State.isArrayOf_alike hZr1028.alike A1048.2.1) A1048.2.2 ib1049 (H1048.at ib1049 rfl) (g := (mkF m 393 #[.val (.int p1), .val (.int p2), .val (.int p3), .val (.int tt), .val (.int ln), .val (.int dd), .val (.int nn), .val (.ref ba), .val (.int m0), .val (.int m1), .val (.int m2), .val (.int m3), .val (.int m4), .val (.int m5), .val (.int m6), .val (.ref fa), .val (.ref am1028), .val (.ref wP), .val .null] [(.int (3 : Int32)), (.ref fa)])) rfl rfl (hb hby at_393) t k) ?_
                  show OwnGo p e below (T1034.setTop (mkF m 394 #[.val (.int p1), .val (.int p2), .val (.int p3), .val (.int tt), .val (.int ln), .val (.int dd), .val (.int nn), .val (.ref ba), .val (.int m0), .val (.int m1), .val (.int m2), .val (.int m3), .val (.int m4), .val (.int m5), .val (.int m6), .val (.ref fa), .val (.ref am1028), .val (.ref wP), .val .null] [(.int f3)])) _
                  refine own_back (fun t k => XS.bipush X1034.here hx rfl (hb hby at_394) k) ?_
                  show OwnGo p e below (T1034.setTop (mkF m 396 #[.val (.int p1), .val (.int p2), .val (.int p3), .val (.int tt), .val (.int ln), .val (.int dd), .val (.int nn), .val (.ref ba), .val (.int m0), .val (.int m1), .val (.int m2), .val (.int m3), .val (.int m4), .val (.int m5), .val (.int m6), .val (.ref fa), .val (.ref am1028), .val (.ref wP), .val .null] [(.int (99 : Int32)), (.int f3)])) _
                  refine own_back (fun t k => XS.icmpNo X1034.here hx rfl (hb hby at_396) rfl (Jvm.Free.XT.ii_ne_f (own_bk (hfs _ (List.mem_of_getElem? (i := 3) rfl)) (by decide) (own_of5 hP).2.2.2.2.1)) k) ?_
                  show OwnGo p e below (T1034.setTop (mkF m 399 #[.val (.int p1), .val (.int p2), .val (.int p3), .val (.int tt), .val (.int ln), .val (.int dd), .val (.int nn), .val (.ref ba), .val (.int m0), .val (.int m1), .val (.int m2), .val (.int m3), .val (.int m4), .val (.int m5), .val (.int m6), .val (.ref fa), .val (.ref am1028), .val (.ref wP), .val .null] [])) _
                  refine own_back (fun t k => XS.aload X1034.here hx rfl (hb hby at_399) rfl rfl k) ?_
                  show OwnGo p e below (T1034.setTop (mkF m 401 #[.val (.int p1), .val (.int p2), .val (.int p3), .val (.int tt), .val (.int ln), .val (.int dd), .val (.int nn), .val (.ref ba), .val (.int m0), .val (.int m1), .val (.int m2), .val (.int m3), .val (.int m4), .val (.int m5), .val (.int m6), .val (.ref fa), .val (.ref am1028), .val (.ref wP), .val .null] [(.ref fa)])) _
                  refine own_back (fun t k => XS.iconst X1034.here hx rfl (hb hby at_401) k) ?_
                  show OwnGo p e below (T1034.setTop (mkF m 402 #[.val (.int p1), .val (.int p2), .val (.int p3), .val (.int tt), .val (.int ln), .val (.int dd), .val (.int nn), .val (.ref ba), .val (.int m0), .val (.int m1), .val (.int m2), .val (.int m3), .val (.int m4), .val (.int m5), .val (.int m6), .val (.ref fa), .val (.ref am1028), .val (.ref wP), .val .null] [(.int (4 : Int32)), (.ref fa)])) _
                  obtain ⟨c1050, A1050, q1050, S1050, M1050, H1050, U1050⟩ := id f1040
                  have ib1051 : ¬ ((4 : Int32) < 0 ∨ c1050.slots.size ≤ ((4 : Int32)).toNatClampNeg) := (inb_of S1050 ⟨by decide, by decide⟩)
                  refine own_back (fun t k => X1034.caload hx (j := (4 : Int32)) (v := (.int f4)) (own_hat rfl A1050.1) (State.isArrayOf_alike hZr1028.alike A1050.2.1) A1050.2.2 ib1051 (H1050.at ib1051 rfl) (g := (mkF m 402 #[.val (.int p1), .val (.int p2), .val (.int p3), .val (.int tt), .val (.int ln), .val (.int dd), .val (.int nn), .val (.ref ba), .val (.int m0), .val (.int m1), .val (.int m2), .val (.int m3), .val (.int m4), .val (.int m5), .val (.int m6), .val (.ref fa), .val (.ref am1028), .val (.ref wP), .val .null] [(.int (4 : Int32)), (.ref fa)])) rfl rfl (hb hby at_402) t k) ?_
                  show OwnGo p e below (T1034.setTop (mkF m 403 #[.val (.int p1), .val (.int p2), .val (.int p3), .val (.int tt), .val (.int ln), .val (.int dd), .val (.int nn), .val (.ref ba), .val (.int m0), .val (.int m1), .val (.int m2), .val (.int m3), .val (.int m4), .val (.int m5), .val (.int m6), .val (.ref fa), .val (.ref am1028), .val (.ref wP), .val .null] [(.int f4)])) _
                  refine own_back (fun t k => XS.bipush X1034.here hx rfl (hb hby at_403) k) ?_
                  show OwnGo p e below (T1034.setTop (mkF m 405 #[.val (.int p1), .val (.int p2), .val (.int p3), .val (.int tt), .val (.int ln), .val (.int dd), .val (.int nn), .val (.ref ba), .val (.int m0), .val (.int m1), .val (.int m2), .val (.int m3), .val (.int m4), .val (.int m5), .val (.int m6), .val (.ref fa), .val (.ref am1028), .val (.ref wP), .val .null] [(.int (101 : Int32)), (.int f4)])) _
                  refine own_back (fun t k => XS.icmpNo X1034.here hx rfl (hb hby at_405) rfl (Jvm.Free.XT.ii_ne_f (own_bk (hfs _ (List.mem_of_getElem? (i := 4) rfl)) (by decide) (own_of5 hP).2.2.2.2.2)) k) ?_
                  show OwnGo p e below (T1034.setTop (mkF m 408 #[.val (.int p1), .val (.int p2), .val (.int p3), .val (.int tt), .val (.int ln), .val (.int dd), .val (.int nn), .val (.ref ba), .val (.int m0), .val (.int m1), .val (.int m2), .val (.int m3), .val (.int m4), .val (.int m5), .val (.int m6), .val (.ref fa), .val (.ref am1028), .val (.ref wP), .val .null] [])) _
                  obtain ⟨T1052, X1052, e1052, st1052⟩ := getS2 X1034 hx hZr1028 hownr1028 (host := "") (Or.inl (hw _ (List.mem_of_getElem? (i := 70) rfl))) Via.refl rfl (SP.ext O1035.2) (g := (mkF m 408 #[.val (.int p1), .val (.int p2), .val (.int p3), .val (.int tt), .val (.int ln), .val (.int dd), .val (.int nn), .val (.ref ba), .val (.int m0), .val (.int m1), .val (.int m2), .val (.int m3), .val (.int m4), .val (.int m5), .val (.int m6), .val (.ref fa), .val (.ref am1028), .val (.ref wP), .val .null] [])) rfl (hb hby at_408)
                  refine own_back st1052 ?_
                  show OwnGo p e below (T1052.setTop (mkF m 411 #[.val (.int p1), .val (.int p2), .val (.int p3), .val (.int tt), .val (.int ln), .val (.int dd), .val (.int nn), .val (.ref ba), .val (.int m0), .val (.int m1), .val (.int m2), .val (.int m3), .val (.int m4), .val (.int m5), .val (.int m6), .val (.ref fa), .val (.ref am1028), .val (.ref wP), .val .null] [(.ref wP)])) _
                  refine own_back (fun t k => XS.astore X1052.here hx rfl (hb hby at_411) rfl rfl (l' := #[.val (.int p1), .val (.int p2), .val (.int p3), .val (.int tt), .val (.int ln), .val (.int dd), .val (.int nn), .val (.ref ba), .val (.int m0), .val (.int m1), .val (.int m2), .val (.int m3), .val (.int m4), .val (.int m5), .val (.int m6), .val (.ref fa), .val (.ref am1028), .val (.ref wP), .val (.ref wP)]) rfl k) ?_
                  show OwnGo p e below (T1052.setTop (mkF m 413 #[.val (.int p1), .val (.int p2), .val (.int p3), .val (.int tt), .val (.int ln), .val (.int dd), .val (.int nn), .val (.ref ba), .val (.int m0), .val (.int m1), .val (.int m2), .val (.int m3), .val (.int m4), .val (.int m5), .val (.int m6), .val (.ref fa), .val (.ref am1028), .val (.ref wP), .val (.ref wP)] [])) _
                  refine own_back (fun t k => XS.goto X1052.here hx rfl (pc0 := 413) (pc' := 466) rfl (hb hby at_413) (by decide) (by decide) k) ?_
                  show OwnGo p e below (T1052.setTop (mkF m 466 #[.val (.int p1), .val (.int p2), .val (.int p3), .val (.int tt), .val (.int ln), .val (.int dd), .val (.int nn), .val (.ref ba), .val (.int m0), .val (.int m1), .val (.int m2), .val (.int m3), .val (.int m4), .val (.int m5), .val (.int m6), .val (.ref fa), .val (.ref am1028), .val (.ref wP), .val (.ref wP)] [])) _
                  refine own_back (fun t k => XS.aload X1052.here hx rfl (hb hby at_466) rfl rfl k) ?_
                  show OwnGo p e below (T1052.setTop (mkF m 468 #[.val (.int p1), .val (.int p2), .val (.int p3), .val (.int tt), .val (.int ln), .val (.int dd), .val (.int nn), .val (.ref ba), .val (.int m0), .val (.int m1), .val (.int m2), .val (.int m3), .val (.int m4), .val (.int m5), .val (.int m6), .val (.ref fa), .val (.ref am1028), .val (.ref wP), .val (.ref wP)] [(.ref wP)])) _
                  refine own_back (fun t k => XS.aload X1052.here hx rfl (hb hby at_468) rfl rfl k) ?_
                  show OwnGo p e below (T1052.setTop (mkF m 470 #[.val (.int p1), .val (.int p2), .val (.int p3), .val (.int tt), .val (.int ln), .val (.int dd), .val (.int nn), .val (.ref ba), .val (.int m0), .val (.int m1), .val (.int m2), .val (.int m3), .val (.int m4), .val (.int m5), .val (.int m6), .val (.ref fa), .val (.ref am1028), .val (.ref wP), .val (.ref wP)] [(.ref wP), (.ref wP)])) _
                  refine own_back (fun t k => Jvm.RoadKit.acmp (g := (mkF m 470 #[.val (.int p1), .val (.int p2), .val (.int p3), .val (.int tt), .val (.int ln), .val (.int dd), .val (.int nn), .val (.ref ba), .val (.int m0), .val (.int m1), .val (.int m2), .val (.int m3), .val (.int m4), .val (.int m5), .val (.int m6), .val (.ref fa), .val (.ref am1028), .val (.ref wP), .val (.ref wP)] [(.ref wP), (.ref wP)])) X1052 hx rfl rfl rfl (pc0 := 470) (pc' := 473) (same := true) rfl (hb hby at_470) rfl (decide_eq_true rfl) (by decide) (by decide) k) ?_
                  show OwnGo p e below (T1052.setTop (mkF m 473 #[.val (.int p1), .val (.int p2), .val (.int p3), .val (.int tt), .val (.int ln), .val (.int dd), .val (.int nn), .val (.ref ba), .val (.int m0), .val (.int m1), .val (.int m2), .val (.int m3), .val (.int m4), .val (.int m5), .val (.int m6), .val (.ref fa), .val (.ref am1028), .val (.ref wP), .val (.ref wP)] [])) _
                  refine own_back (fun t k => XS.iconst X1052.here hx rfl (hb hby at_473) k) ?_
                  show OwnGo p e below (T1052.setTop (mkF m 474 #[.val (.int p1), .val (.int p2), .val (.int p3), .val (.int tt), .val (.int ln), .val (.int dd), .val (.int nn), .val (.ref ba), .val (.int m0), .val (.int m1), .val (.int m2), .val (.int m3), .val (.int m4), .val (.int m5), .val (.int m6), .val (.ref fa), .val (.ref am1028), .val (.ref wP), .val (.ref wP)] [(.int (1 : Int32))])) _
                  refine own_back (fun t k => XS.goto X1052.here hx rfl (pc0 := 474) (pc' := 478) rfl (hb hby at_474) (by decide) (by decide) k) ?_
                  show OwnGo p e below (T1052.setTop (mkF m 478 #[.val (.int p1), .val (.int p2), .val (.int p3), .val (.int tt), .val (.int ln), .val (.int dd), .val (.int nn), .val (.ref ba), .val (.int m0), .val (.int m1), .val (.int m2), .val (.int m3), .val (.int m4), .val (.int m5), .val (.int m6), .val (.ref fa), .val (.ref am1028), .val (.ref wP), .val (.ref wP)] [(.int (1 : Int32))])) _
                  refine own_retNW X1052 hx Bd.notSynchronized (t := .boolean) (z := (1 : Int32)) Bd.returns (by simp) rfl hSr1028 hk1039 hZr1028 hEL (hh ▸ CR1038) (hb hby at_478) e1052 (Nat.le_of_ble_eq_true rfl) (Nat.le_of_ble_eq_true rfl) ?_
                  exact ⟨rfl, N1034⟩
                · by_cases hT : ([116, 111, 116, 97, 108] : List Int32) = (own_mk f0 f1 f2 f3 f4 f5 f6 ln)
                  · obtain ⟨_, _, ⟨T1053, L1053, k1053, n1053⟩, -, X1053, ⟨Lc1053, hQ1053, l1053, y1053, z1053⟩, st1053⟩ := Jvm.LawKit.callS Xr1028 hx (y := (⟨"com/example/indexwright/indexwright/bond/BondVariant", "of", "(Ljava/lang/String;)Lcom/example/indexwright/indexwright/bond/BondVariant;"⟩ : MethodName)) hownr1028 (mvT hZr1028 (hw _ (List.mem_of_getElem? (i := 26) rfl))) (mvT hZr1028 (hw _ (List.mem_of_getElem? (i := 27) rfl))) (mvT hZr1028 (hw _ (List.mem_of_getElem? (i := 28) rfl))) (mvT hZr1028 (hw _ (List.mem_of_getElem? (i := 29) rfl))) (by decide) (own_backN (W := 0) (rm_of l Z a0 hw [] am1028 (own_mk f0 f1 f2 f3 f4 f5 f6 ln) wP wT wV kV kP kT cz T1028.heap n0 Zs1031 O1029 B1028 SV AV EV FV FP FT BP BT SC hcz) hZr1028 (hw _ (List.mem_of_getElem? (i := 29) rfl)) (hw _ (List.mem_of_getElem? (i := 28) rfl)) (by decide) (by decide)) (g := (mkF m 344 #[.val (.int p1), .val (.int p2), .val (.int p3), .val (.int tt), .val (.int ln), .val (.int dd), .val (.int nn), .val (.ref ba), .val (.int m0), .val (.int m1), .val (.int m2), .val (.int m3), .val (.int m4), .val (.int m5), .val (.int m6), .val (.ref fa), .val (.ref am1028), .unset, .unset] [(.ref am1028)])) rfl (by rw [hml]; rfl) (argsL := [(.ref am1028)]) (rest := []) (lenOf lw_pd1 rfl) rfl (by show 2 * 0 + _ ≤ _; exact Nat.le_of_eq rfl) (hb hby at_344) (fun _ _ => ⟨rfl, rfl, Nat.le_of_ble_eq_true rfl, Nat.le_of_ble_eq_true rfl⟩)
                    dsimp only [Pt.U, Pt.locs, Pt.cells, Pt.slots] at X1053 l1053 y1053 z1053 st1053 hQ1053
                    subst l1053 y1053 z1053
                    rw [if_neg hP, if_pos hT] at hQ1053
                    obtain ⟨rfl, N1053q, E1053⟩ := hQ1053
                    refine own_back st1053 ?_
                    have N1053 := Fr.app N1028 N1053q
                    have O1054 := O1029.ext E1053
                    have KP1055 := KP1030.ext E1053
                    have Zs1056 := Nat.le_trans Zs1031 E1053.1
                    have CR1057 := CR1032.trans (CHr.ext E1053 CR1032.1)
                    have hk1058 := Nat.le_trans (Nat.le_refl _) E1053.1
                    have f1059 := f1033.ext E1053
                    have f1060 := B1028.ext E1053
                    show OwnGo p e below (T1053.setTop (mkF m 347 #[.val (.int p1), .val (.int p2), .val (.int p3), .val (.int tt), .val (.int ln), .val (.int dd), .val (.int nn), .val (.ref ba), .val (.int m0), .val (.int m1), .val (.int m2), .val (.int m3), .val (.int m4), .val (.int m5), .val (.int m6), .val (.ref fa), .val (.ref am1028), .unset, .unset] [(.ref wT)])) _
                    refine own_back (fun t k => XS.astore X1053.here hx rfl (hb hby at_347) rfl rfl (l' := #[.val (.int p1), .val (.int p2), .val (.int p3), .val (.int tt), .val (.int ln), .val (.int dd), .val (.int nn), .val (.ref ba), .val (.int m0), .val (.int m1), .val (.int m2), .val (.int m3), .val (.int m4), .val (.int m5), .val (.int m6), .val (.ref fa), .val (.ref am1028), .val (.ref wT), .unset]) rfl k) ?_
                    show OwnGo p e below (T1053.setTop (mkF m 349 #[.val (.int p1), .val (.int p2), .val (.int p3), .val (.int tt), .val (.int ln), .val (.int dd), .val (.int nn), .val (.ref ba), .val (.int m0), .val (.int m1), .val (.int m2), .val (.int m3), .val (.int m4), .val (.int m5), .val (.int m6), .val (.ref fa), .val (.ref am1028), .val (.ref wT), .unset] [])) _
                    refine own_back (fun t k => XS.aconstNull X1053.here hx rfl (hb hby at_349) k) ?_
                    show OwnGo p e below (T1053.setTop (mkF m 350 #[.val (.int p1), .val (.int p2), .val (.int p3), .val (.int tt), .val (.int ln), .val (.int dd), .val (.int nn), .val (.ref ba), .val (.int m0), .val (.int m1), .val (.int m2), .val (.int m3), .val (.int m4), .val (.int m5), .val (.int m6), .val (.ref fa), .val (.ref am1028), .val (.ref wT), .unset] [.null])) _
                    refine own_back (fun t k => XS.astore X1053.here hx rfl (hb hby at_350) rfl rfl (l' := #[.val (.int p1), .val (.int p2), .val (.int p3), .val (.int tt), .val (.int ln), .val (.int dd), .val (.int nn), .val (.ref ba), .val (.int m0), .val (.int m1), .val (.int m2), .val (.int m3), .val (.int m4), .val (.int m5), .val (.int m6), .val (.ref fa), .val (.ref am1028), .val (.ref wT), .val .null]) rfl k) ?_
                    show OwnGo p e below (T1053.setTop (mkF m 352 #[.val (.int p1), .val (.int p2), .val (.int p3), .val (.int tt), .val (.int ln), .val (.int dd), .val (.int nn), .val (.ref ba), .val (.int m0), .val (.int m1), .val (.int m2), .val (.int m3), .val (.int m4), .val (.int m5), .val (.int m6), .val (.ref fa), .val (.ref am1028), .val (.ref wT), .val .null] [])) _
                    refine own_back (fun t k => XS.iload X1053.here hx rfl (hb hby at_352) rfl k) ?_
                    show OwnGo p e below (T1053.setTop (mkF m 354 #[.val (.int p1), .val (.int p2), .val (.int p3), .val (.int tt), .val (.int ln), .val (.int dd), .val (.int nn), .val (.ref ba), .val (.int m0), .val (.int m1), .val (.int m2), .val (.int m3), .val (.int m4), .val (.int m5), .val (.int m6), .val (.ref fa), .val (.ref am1028), .val (.ref wT), .val .null] [(.int nn)])) _
                    refine own_back (fun t k => XS.ifNo X1053.here hx rfl (hb hby at_354) rfl (Jvm.Free.XT.i0_ne_f hc326_1027) k) ?_
                    show OwnGo p e below (T1053.setTop (mkF m 357 #[.val (.int p1), .val (.int p2), .val (.int p3), .val (.int tt), .val (.int ln), .val (.int dd), .val (.int nn), .val (.ref ba), .val (.int m0), .val (.int m1), .val (.int m2), .val (.int m3), .val (.int m4), .val (.int m5), .val (.int m6), .val (.ref fa), .val (.ref am1028), .val (.ref wT), .val .null] [])) _
                    refine own_back (fun t k => XS.iload X1053.here hx rfl (hb hby at_357) rfl k) ?_
                    show OwnGo p e below (T1053.setTop (mkF m 359 #[.val (.int p1), .val (.int p2), .val (.int p3), .val (.int tt), .val (.int ln), .val (.int dd), .val (.int nn), .val (.ref ba), .val (.int m0), .val (.int m1), .val (.int m2), .val (.int m3), .val (.int m4), .val (.int m5), .val (.int m6), .val (.ref fa), .val (.ref am1028), .val (.ref wT), .val .null] [(.int ln)])) _
                    refine own_back (fun t k => XS.iconst X1053.here hx rfl (hb hby at_359) k) ?_
                    show OwnGo p e below (T1053.setTop (mkF m 360 #[.val (.int p1), .val (.int p2), .val (.int p3), .val (.int tt), .val (.int ln), .val (.int dd), .val (.int nn), .val (.ref ba), .val (.int m0), .val (.int m1), .val (.int m2), .val (.int m3), .val (.int m4), .val (.int m5), .val (.int m6), .val (.ref fa), .val (.ref am1028), .val (.ref wT), .val .null] [(.int (5 : Int32)), (.int ln)])) _
                    refine own_back (fun t k => XS.icmpNo X1053.here hx rfl (hb hby at_360) rfl (Jvm.Free.XT.ii_ne_f (own_of5 hT).1) k) ?_
                    show OwnGo p e below (T1053.setTop (mkF m 363 #[.val (.int p1), .val (.int p2), .val (.int p3), .val (.int tt), .val (.int ln), .val (.int dd), .val (.int nn), .val (.ref ba), .val (.int m0), .val (.int m1), .val (.int m2), .val (.int m3), .val (.int m4), .val (.int m5), .val (.int m6), .val (.ref fa), .val (.ref am1028), .val (.ref wT), .val .null] [])) _
                    refine own_back (fun t k => XS.aload X1053.here hx rfl (hb hby at_363) rfl rfl k) ?_
                    show OwnGo p e below (T1053.setTop (mkF m 365 #[.val (.int p1), .val (.int p2), .val (.int p3), .val (.int tt), .val (.int ln), .val (.int dd), .val (.int nn), .val (.ref ba), .val (.int m0), .val (.int m1), .val (.int m2), .val (.int m3), .val (.int m4), .val (.int m5), .val (.int m6), .val (.ref fa), .val (.ref am1028), .val (.ref wT), .val .null] [(.ref fa)])) _
                    refine own_back (fun t k => XS.iconst X1053.here hx rfl (hb hby at_365) k) ?_
                    show OwnGo p e below (T1053.setTop (mkF m 366 #[.val (.int p1), .val (.int p2), .val (.int p3), .val (.int tt), .val (.int ln), .val (.int dd), .val (.int nn), .val (.ref ba), .val (.int m0), .val (.int m1), .val (.int m2), .val (.int m3), .val (.int m4), .val (.int m5), .val (.int m6), .val (.ref fa), .val (.ref am1028), .val (.ref wT), .val .null] [(.int (0 : Int32)), (.ref fa)])) _
                    obtain ⟨c1061, A1061, q1061, S1061, M1061, H1061, U1061⟩ := id f1059
                    have ib1062 : ¬ ((0 : Int32) < 0 ∨ c1061.slots.size ≤ ((0 : Int32)).toNatClampNeg) := (inb_of S1061 ⟨by decide, by decide⟩)
                    refine own_back (fun t k => X1053.caload hx (j := (0 : Int32)) (v := (.int f0)) (own_hat rfl A1061.1) (State.isArrayOf_alike hZr1028.alike A1061.2.1) A1061.2.2 ib1062 (H1061.at ib1062 rfl) (g := (mkF m 366 #[.val (.int p1), .val (.int p2), .val (.int p3), .val (.int tt), .val (.int ln), .val (.int dd), .val (.int nn), .val (.ref ba), .val (.int m0), .val (.int m1), .val (.int m2), .val (.int m3), .val (.int m4), .val (.int m5), .val (.int m6), .val (.ref fa), .val (.ref am1028), .val (.ref wT), .val .null] [(.int (0 : Int32)), (.ref fa)])) rfl rfl (hb hby at_366) t k) ?_
                    show OwnGo p e below (T1053.setTop (mkF m 367 #[.val (.int p1), .val (.int p2), .val (.int p3), .val (.int tt), .val (.int ln), .val (.int dd), .val (.int nn), .val (.ref ba), .val (.int m0), .val (.int m1), .val (.int m2), .val (.int m3), .val (.int m4), .val (.int m5), .val (.int m6), .val (.ref fa), .val (.ref am1028), .val (.ref wT), .val .null] [(.int f0)])) _
                    refine own_back (fun t k => XS.bipush X1053.here hx rfl (hb hby at_367) k) ?_
                    show OwnGo p e below (T1053.setTop (mkF m 369 #[.val (.int p1), .val (.int p2), .val (.int p3), .val (.int tt), .val (.int ln), .val (.int dd), .val (.int nn), .val (.ref ba), .val (.int m0), .val (.int m1), .val (.int m2), .val (.int m3), .val (.int m4), .val (.int m5), .val (.int m6), .val (.ref fa), .val (.ref am1028), .val (.ref wT), .val .null] [(.int (112 : Int32)), (.int f0)])) _
                    refine own_back (fun t k => XS.icmpYes X1053.here hx rfl (pc0 := 369) (pc' := 416) rfl (hb hby at_369) rfl (Jvm.Free.XT.ii_ne_t (by rw [(own_bk (hfs _ (List.mem_of_getElem? (i := 0) rfl)) (by decide) (own_of5 hT).2.1)]; decide)) (by decide) (by decide) k) ?_
                    show OwnGo p e below (T1053.setTop (mkF m 416 #[.val (.int p1), .val (.int p2), .val (.int p3), .val (.int tt), .val (.int ln), .val (.int dd), .val (.int nn), .val (.ref ba), .val (.int m0), .val (.int m1), .val (.int m2), .val (.int m3), .val (.int m4), .val (.int m5), .val (.int m6), .val (.ref fa), .val (.ref am1028), .val (.ref wT), .val .null] [])) _
                    refine own_back (fun t k => XS.aload X1053.here hx rfl (hb hby at_416) rfl rfl k) ?_
                    show OwnGo p e below (T1053.setTop (mkF m 418 #[.val (.int p1), .val (.int p2), .val (.int p3), .val (.int tt), .val (.int ln), .val (.int dd), .val (.int nn), .val (.ref ba), .val (.int m0), .val (.int m1), .val (.int m2), .val (.int m3), .val (.int m4), .val (.int m5), .val (.int m6), .val (.ref fa), .val (.ref am1028), .val (.ref wT), .val .null] [(.ref fa)])) _
                    refine own_back (fun t k => XS.iconst X1053.here hx rfl (hb hby at_418) k) ?_
                    show OwnGo p e below (T1053.setTop (mkF m 419 #[.val (.int p1), .val (.int p2), .val (.int p3), .val (.int tt), .val (.int ln), .val (.int dd), .val (.int nn), .val (.ref ba), .val (.int m0), .val (.int m1), .val (.int m2), .val (.int m3), .val (.int m4), .val (.int m5), .val (.int m6), .val (.ref fa), .val (.ref am1028), .val (.ref wT), .val .null] [(.int (0 : Int32)), (.ref fa)])) _
                    obtain ⟨c1063, A1063, q1063, S1063, M1063, H1063, U1063⟩ := id f1059
                    have ib1064 : ¬ ((0 : Int32) < 0 ∨ c1063.slots.size ≤ ((0 : Int32)).toNatClampNeg) := (inb_of S1063 ⟨by decide, by decide⟩)
                    refine own_back (fun t k => X1053.caload hx (j := (0 : Int32)) (v := (.int f0)) (own_hat rfl A1063.1) (State.isArrayOf_alike hZr1028.alike A1063.2.1) A1063.2.2 ib1064 (H1063.at ib1064 rfl) (g := (mkF m 419 #[.val (.int p1), .val (.int p2), .val (.int p3), .val (.int tt), .val (.int ln), .val (.int dd), .val (.int nn), .val (.ref ba), .val (.int m0), .val (.int m1), .val (.int m2), .val (.int m3), .val (.int m4), .val (.int m5), .val (.int m6), .val (.ref fa), .val (.ref am1028), .val (.ref wT), .val .null] [(.int (0 : Int32)), (.ref fa)])) rfl rfl (hb hby at_419) t k) ?_
                    show OwnGo p e below (T1053.setTop (mkF m 420 #[.val (.int p1), .val (.int p2), .val (.int p3), .val (.int tt), .val (.int ln), .val (.int dd), .val (.int nn), .val (.ref ba), .val (.int m0), .val (.int m1), .val (.int m2), .val (.int m3), .val (.int m4), .val (.int m5), .val (.int m6), .val (.ref fa), .val (.ref am1028), .val (.ref wT), .val .null] [(.int f0)])) _
                    refine own_back (fun t k => XS.bipush X1053.here hx rfl (hb hby at_420) k) ?_
                    show OwnGo p e below (T1053.setTop (mkF m 422 #[.val (.int p1), .val (.int p2), .val (.int p3), .val (.int tt), .val (.int ln), .val (.int dd), .val (.int nn), .val (.ref ba), .val (.int m0), .val (.int m1), .val (.int m2), .val (.int m3), .val (.int m4), .val (.int m5), .val (.int m6), .val (.ref fa), .val (.ref am1028), .val (.ref wT), .val .null] [(.int (116 : Int32)), (.int f0)])) _
                    refine own_back (fun t k => XS.icmpNo X1053.here hx rfl (hb hby at_422) rfl (Jvm.Free.XT.ii_ne_f (own_bk (hfs _ (List.mem_of_getElem? (i := 0) rfl)) (by decide) (own_of5 hT).2.1)) k) ?_
                    show OwnGo p e below (T1053.setTop (mkF m 425 #[.val (.int p1), .val (.int p2), .val (.int p3), .val (.int tt), .val (.int ln), .val (.int dd), .val (.int nn), .val (.ref ba), .val (.int m0), .val (.int m1), .val (.int m2), .val (.int m3), .val (.int m4), .val (.int m5), .val (.int m6), .val (.ref fa), .val (.ref am1028), .val (.ref wT), .val .null] [])) _
                    refine own_back (fun t k => XS.aload X1053.here hx rfl (hb hby at_425) rfl rfl k) ?_
                    show OwnGo p e below (T1053.setTop (mkF m 427 #[.val (.int p1), .val (.int p2), .val (.int p3), .val (.int tt), .val (.int ln), .val (.int dd), .val (.int nn), .val (.ref ba), .val (.int m0), .val (.int m1), .val (.int m2), .val (.int m3), .val (.int m4), .val (.int m5), .val (.int m6), .val (.ref fa), .val (.ref am1028), .val (.ref wT), .val .null] [(.ref fa)])) _
                    refine own_back (fun t k => XS.iconst X1053.here hx rfl (hb hby at_427) k) ?_
                    show OwnGo p e below (T1053.setTop (mkF m 428 #[.val (.int p1), .val (.int p2), .val (.int p3), .val (.int tt), .val (.int ln), .val (.int dd), .val (.int nn), .val (.ref ba), .val (.int m0), .val (.int m1), .val (.int m2), .val (.int m3), .val (.int m4), .val (.int m5), .val (.int m6), .val (.ref fa), .val (.ref am1028), .val (.ref wT), .val .null] [(.int (1 : Int32)), (.ref fa)])) _
                    obtain ⟨c1065, A1065, q1065, S1065, M1065, H1065, U1065⟩ := id f1059
                    have ib1066 : ¬ ((1 : Int32) < 0 ∨ c1065.slots.size ≤ ((1 : Int32)).toNatClampNeg) := (inb_of S1065 ⟨by decide, by decide⟩)
                    refine own_back (fun t k => X1053.caload hx (j := (1 : Int32)) (v := (.int f1)) (own_hat rfl A1065.1) (State.isArrayOf_alike hZr1028.alike A1065.2.1) A1065.2.2 ib1066 (H1065.at ib1066 rfl) (g := (mkF m 428 #[.val (.int p1), .val (.int p2), .val (.int p3), .val (.int tt), .val (.int ln), .val (.int dd), .val (.int nn), .val (.ref ba), .val (.int m0), .val (.int m1), .val (.int m2), .val (.int m3), .val (.int m4), .val (.int m5), .val (.int m6), .val (.ref fa), .val (.ref am1028), .val (.ref wT), .val .null] [(.int (1 : Int32)), (.ref fa)])) rfl rfl (hb hby at_428) t k) ?_
                    show OwnGo p e below (T1053.setTop (mkF m 429 #[.val (.int p1), .val (.int p2), .val (.int p3), .val (.int tt), .val (.int ln), .val (.int dd), .val (.int nn), .val (.ref ba), .val (.int m0), .val (.int m1), .val (.int m2), .val (.int m3), .val (.int m4), .val (.int m5), .val (.int m6), .val (.ref fa), .val (.ref am1028), .val (.ref wT), .val .null] [(.int f1)])) _
                    refine own_back (fun t k => XS.bipush X1053.here hx rfl (hb hby at_429) k) ?_
                    show OwnGo p e below (T1053.setTop (mkF m 431 #[.val (.int p1), .val (.int p2), .val (.int p3), .val (.int tt), .val (.int ln), .val (.int dd), .val (.int nn), .val (.ref ba), .val (.int m0), .val (.int m1), .val (.int m2), .val (.int m3), .val (.int m4), .val (.int m5), .val (.int m6), .val (.ref fa), .val (.ref am1028), .val (.ref wT), .val .null] [(.int (111 : Int32)), (.int f1)])) _
                    refine own_back (fun t k => XS.icmpNo X1053.here hx rfl (hb hby at_431) rfl (Jvm.Free.XT.ii_ne_f (own_bk (hfs _ (List.mem_of_getElem? (i := 1) rfl)) (by decide) (own_of5 hT).2.2.1)) k) ?_
                    show OwnGo p e below (T1053.setTop (mkF m 434 #[.val (.int p1), .val (.int p2), .val (.int p3), .val (.int tt), .val (.int ln), .val (.int dd), .val (.int nn), .val (.ref ba), .val (.int m0), .val (.int m1), .val (.int m2), .val (.int m3), .val (.int m4), .val (.int m5), .val (.int m6), .val (.ref fa), .val (.ref am1028), .val (.ref wT), .val .null] [])) _
                    refine own_back (fun t k => XS.aload X1053.here hx rfl (hb hby at_434) rfl rfl k) ?_
                    show OwnGo p e below (T1053.setTop (mkF m 436 #[.val (.int p1), .val (.int p2), .val (.int p3), .val (.int tt), .val (.int ln), .val (.int dd), .val (.int nn), .val (.ref ba), .val (.int m0), .val (.int m1), .val (.int m2), .val (.int m3), .val (.int m4), .val (.int m5), .val (.int m6), .val (.ref fa), .val (.ref am1028), .val (.ref wT), .val .null] [(.ref fa)])) _
                    refine own_back (fun t k => XS.iconst X1053.here hx rfl (hb hby at_436) k) ?_
                    show OwnGo p e below (T1053.setTop (mkF m 437 #[.val (.int p1), .val (.int p2), .val (.int p3), .val (.int tt), .val (.int ln), .val (.int dd), .val (.int nn), .val (.ref ba), .val (.int m0), .val (.int m1), .val (.int m2), .val (.int m3), .val (.int m4), .val (.int m5), .val (.int m6), .val (.ref fa), .val (.ref am1028), .val (.ref wT), .val .null] [(.int (2 : Int32)), (.ref fa)])) _
                    obtain ⟨c1067, A1067, q1067, S1067, M1067, H1067, U1067⟩ := id f1059
                    have ib1068 : ¬ ((2 : Int32) < 0 ∨ c1067.slots.size ≤ ((2 : Int32)).toNatClampNeg) := (inb_of S1067 ⟨by decide, by decide⟩)
                    refine own_back (fun t k => X1053.caload hx (j := (2 : Int32)) (v := (.int f2)) (own_hat rfl A1067.1) (State.isArrayOf_alike hZr1028.alike A1067.2.1) A1067.2.2 ib1068 (H1067.at ib1068 rfl) (g := (mkF m 437 #[.val (.int p1), .val (.int p2), .val (.int p3), .val (.int tt), .val (.int ln), .val (.int dd), .val (.int nn), .val (.ref ba), .val (.int m0), .val (.int m1), .val (.int m2), .val (.int m3), .val (.int m4), .val (.int m5), .val (.int m6), .val (.ref fa), .val (.ref am1028), .val (.ref wT), .val .null] [(.int (2 : Int32)), (.ref fa)])) rfl rfl (hb hby at_437) t k) ?_
                    show OwnGo p e below (T1053.setTop (mkF m 438 #[.val (.int p1), .val (.int p2), .val (.int p3), .val (.int tt), .val (.int ln), .val (.int dd), .val (.int nn), .val (.ref ba), .val (.int m0), .val (.int m1), .val (.int m2), .val (.int m3), .val (.int m4), .val (.int m5), .val (.int m6), .val (.ref fa), .val (.ref am1028), .val (.ref wT), .val .null] [(.int f2)])) _
                    refine own_back (fun t k => XS.bipush X1053.here hx rfl (hb hby at_438) k) ?_
                    show OwnGo p e below (T1053.setTop (mkF m 440 #[.val (.int p1), .val (.int p2), .val (.int p3), .val (.int tt), .val (.int ln), .val (.int dd), .val (.int nn), .val (.ref ba), .val (.int m0), .val (.int m1), .val (.int m2), .val (.int m3), .val (.int m4), .val (.int m5), .val (.int m6), .val (.ref fa), .val (.ref am1028), .val (.ref wT), .val .null] [(.int (116 : Int32)), (.int f2)])) _
                    refine own_back (fun t k => XS.icmpNo X1053.here hx rfl (hb hby at_440) rfl (Jvm.Free.XT.ii_ne_f (own_bk (hfs _ (List.mem_of_getElem? (i := 2) rfl)) (by decide) (own_of5 hT).2.2.2.1)) k) ?_
                    show OwnGo p e below (T1053.setTop (mkF m 443 #[.val (.int p1), .val (.int p2), .val (.int p3), .val (.int tt), .val (.int ln), .val (.int dd), .val (.int nn), .val (.ref ba), .val (.int m0), .val (.int m1), .val (.int m2), .val (.int m3), .val (.int m4), .val (.int m5), .val (.int m6), .val (.ref fa), .val (.ref am1028), .val (.ref wT), .val .null] [])) _
                    refine own_back (fun t k => XS.aload X1053.here hx rfl (hb hby at_443) rfl rfl k) ?_
                    show OwnGo p e below (T1053.setTop (mkF m 445 #[.val (.int p1), .val (.int p2), .val (.int p3), .val (.int tt), .val (.int ln), .val (.int dd), .val (.int nn), .val (.ref ba), .val (.int m0), .val (.int m1), .val (.int m2), .val (.int m3), .val (.int m4), .val (.int m5), .val (.int m6), .val (.ref fa), .val (.ref am1028), .val (.ref wT), .val .null] [(.ref fa)])) _
                    refine own_back (fun t k => XS.iconst X1053.here hx rfl (hb hby at_445) k) ?_
                    show OwnGo p e below (T1053.setTop (mkF m 446 #[.val (.int p1), .val (.int p2), .val (.int p3), .val (.int tt), .val (.int ln), .val (.int dd), .val (.int nn), .val (.ref ba), .val (.int m0), .val (.int m1), .val (.int m2), .val (.int m3), .val (.int m4), .val (.int m5), .val (.int m6), .val (.ref fa), .val (.ref am1028), .val (.ref wT), .val .null] [(.int (3 : Int32)), (.ref fa)])) _
                    obtain ⟨c1069, A1069, q1069, S1069, M1069, H1069, U1069⟩ := id f1059
                    have ib1070 : ¬ ((3 : Int32) < 0 ∨ c1069.slots.size ≤ ((3 : Int32)).toNatClampNeg) := (inb_of S1069 ⟨by decide, by decide⟩)
                    refine own_back (fun t k => X1053.caload hx (j := (3 : Int32)) (v := (.int f3)) (own_hat rfl A1069.1) (State.isArrayOf_alike hZr1028.alike A1069.2.1) A1069.2.2 ib1070 (H1069.at ib1070 rfl) (g := (mkF m 446 #[.val (.int p1), .val (.int p2), .val (.int p3), .val (.int tt), .val (.int ln), .val (.int dd), .val (.int nn), .val (.ref ba), .val (.int m0), .val (.int m1), .val (.int m2), .val (.int m3), .val (.int m4), .val (.int m5), .val (.int m6), .val (.ref fa), .val (.ref am1028), .val (.ref wT), .val .null] [(.int (3 : Int32)), (.ref fa)])) rfl rfl (hb hby at_446) t k) ?_
                    show OwnGo p e below (T1053.setTop (mkF m 447 #[.val (.int p1), .val (.int p2), .val (.int p3), .val (.int tt), .val (.int ln), .val (.int dd), .val (.int nn), .val (.ref ba), .val (.int m0), .val (.int m1), .val (.int m2), .val (.int m3), .val (.int m4), .val (.int m5), .val (.int m6), .val (.ref fa), .val (.ref am1028), .val (.ref wT), .val .null] [(.int f3)])) _
                    refine own_back (fun t k => XS.bipush X1053.here hx rfl (hb hby at_447) k) ?_
                    show OwnGo p e below (T1053.setTop (mkF m 449 #[.val (.int p1), .val (.int p2), .val (.int p3), .val (.int tt), .val (.int ln), .val (.int dd), .val (.int nn), .val (.ref ba), .val (.int m0), .val (.int m1), .val (.int m2), .val (.int m3), .val (.int m4), .val (.int m5), .val (.int m6), .val (.ref fa), .val (.ref am1028), .val (.ref wT), .val .null] [(.int (97 : Int32)), (.int f3)])) _
                    refine own_back (fun t k => XS.icmpNo X1053.here hx rfl (hb hby at_449) rfl (Jvm.Free.XT.ii_ne_f (own_bk (hfs _ (List.mem_of_getElem? (i := 3) rfl)) (by decide) (own_of5 hT).2.2.2.2.1)) k) ?_
                    show OwnGo p e below (T1053.setTop (mkF m 452 #[.val (.int p1), .val (.int p2), .val (.int p3), .val (.int tt), .val (.int ln), .val (.int dd), .val (.int nn), .val (.ref ba), .val (.int m0), .val (.int m1), .val (.int m2), .val (.int m3), .val (.int m4), .val (.int m5), .val (.int m6), .val (.ref fa), .val (.ref am1028), .val (.ref wT), .val .null] [])) _
                    refine own_back (fun t k => XS.aload X1053.here hx rfl (hb hby at_452) rfl rfl k) ?_
                    show OwnGo p e below (T1053.setTop (mkF m 454 #[.val (.int p1), .val (.int p2), .val (.int p3), .val (.int tt), .val (.int ln), .val (.int dd), .val (.int nn), .val (.ref ba), .val (.int m0), .val (.int m1), .val (.int m2), .val (.int m3), .val (.int m4), .val (.int m5), .val (.int m6), .val (.ref fa), .val (.ref am1028), .val (.ref wT), .val .null] [(.ref fa)])) _
                    refine own_back (fun t k => XS.iconst X1053.here hx rfl (hb hby at_454) k) ?_
                    show OwnGo p e below (T1053.setTop (mkF m 455 #[.val (.int p1), .val (.int p2), .val (.int p3), .val (.int tt), .val (.int ln), .val (.int dd), .val (.int nn), .val (.ref ba), .val (.int m0), .val (.int m1), .val (.int m2), .val (.int m3), .val (.int m4), .val (.int m5), .val (.int m6), .val (.ref fa), .val (.ref am1028), .val (.ref wT), .val .null] [(.int (4 : Int32)), (.ref fa)])) _
                    obtain ⟨c1071, A1071, q1071, S1071, M1071, H1071, U1071⟩ := id f1059
                    have ib1072 : ¬ ((4 : Int32) < 0 ∨ c1071.slots.size ≤ ((4 : Int32)).toNatClampNeg) := (inb_of S1071 ⟨by decide, by decide⟩)
                    refine own_back (fun t k => X1053.caload hx (j := (4 : Int32)) (v := (.int f4)) (own_hat rfl A1071.1) (State.isArrayOf_alike hZr1028.alike A1071.2.1) A1071.2.2 ib1072 (H1071.at ib1072 rfl) (g := (mkF m 455 #[.val (.int p1), .val (.int p2), .val (.int p3), .val (.int tt), .val (.int ln), .val (.int dd), .val (.int nn), .val (.ref ba), .val (.int m0), .val (.int m1), .val (.int m2), .val (.int m3), .val (.int m4), .val (.int m5), .val (.int m6), .val (.ref fa), .val (.ref am1028), .val (.ref wT), .val .null] [(.int (4 : Int32)), (.ref fa)])) rfl rfl (hb hby at_455) t k) ?_
                    show OwnGo p e below (T1053.setTop (mkF m 456 #[.val (.int p1), .val (.int p2), .val (.int p3), .val (.int tt), .val (.int ln), .val (.int dd), .val (.int nn), .val (.ref ba), .val (.int m0), .val (.int m1), .val (.int m2), .val (.int m3), .val (.int m4), .val (.int m5), .val (.int m6), .val (.ref fa), .val (.ref am1028), .val (.ref wT), .val .null] [(.int f4)])) _
                    refine own_back (fun t k => XS.bipush X1053.here hx rfl (hb hby at_456) k) ?_
                    show OwnGo p e below (T1053.setTop (mkF m 458 #[.val (.int p1), .val (.int p2), .val (.int p3), .val (.int tt), .val (.int ln), .val (.int dd), .val (.int nn), .val (.ref ba), .val (.int m0), .val (.int m1), .val (.int m2), .val (.int m3), .val (.int m4), .val (.int m5), .val (.int m6), .val (.ref fa), .val (.ref am1028), .val (.ref wT), .val .null] [(.int (108 : Int32)), (.int f4)])) _
                    refine own_back (fun t k => XS.icmpNo X1053.here hx rfl (hb hby at_458) rfl (Jvm.Free.XT.ii_ne_f (own_bk (hfs _ (List.mem_of_getElem? (i := 4) rfl)) (by decide) (own_of5 hT).2.2.2.2.2)) k) ?_
                    show OwnGo p e below (T1053.setTop (mkF m 461 #[.val (.int p1), .val (.int p2), .val (.int p3), .val (.int tt), .val (.int ln), .val (.int dd), .val (.int nn), .val (.ref ba), .val (.int m0), .val (.int m1), .val (.int m2), .val (.int m3), .val (.int m4), .val (.int m5), .val (.int m6), .val (.ref fa), .val (.ref am1028), .val (.ref wT), .val .null] [])) _
                    obtain ⟨T1073, X1073, e1073, st1073⟩ := getS2 X1053 hx hZr1028 hownr1028 (host := "") (Or.inl (hw _ (List.mem_of_getElem? (i := 71) rfl))) Via.refl rfl (ST.ext O1054.2) (g := (mkF m 461 #[.val (.int p1), .val (.int p2), .val (.int p3), .val (.int tt), .val (.int ln), .val (.int dd), .val (.int nn), .val (.ref ba), .val (.int m0), .val (.int m1), .val (.int m2), .val (.int m3), .val (.int m4), .val (.int m5), .val (.int m6), .val (.ref fa), .val (.ref am1028), .val (.ref wT), .val .null] [])) rfl (hb hby at_461)
                    refine own_back st1073 ?_
                    show OwnGo p e below (T1073.setTop (mkF m 464 #[.val (.int p1), .val (.int p2), .val (.int p3), .val (.int tt), .val (.int ln), .val (.int dd), .val (.int nn), .val (.ref ba), .val (.int m0), .val (.int m1), .val (.int m2), .val (.int m3), .val (.int m4), .val (.int m5), .val (.int m6), .val (.ref fa), .val (.ref am1028), .val (.ref wT), .val .null] [(.ref wT)])) _
                    refine own_back (fun t k => XS.astore X1073.here hx rfl (hb hby at_464) rfl rfl (l' := #[.val (.int p1), .val (.int p2), .val (.int p3), .val (.int tt), .val (.int ln), .val (.int dd), .val (.int nn), .val (.ref ba), .val (.int m0), .val (.int m1), .val (.int m2), .val (.int m3), .val (.int m4), .val (.int m5), .val (.int m6), .val (.ref fa), .val (.ref am1028), .val (.ref wT), .val (.ref wT)]) rfl k) ?_
                    show OwnGo p e below (T1073.setTop (mkF m 466 #[.val (.int p1), .val (.int p2), .val (.int p3), .val (.int tt), .val (.int ln), .val (.int dd), .val (.int nn), .val (.ref ba), .val (.int m0), .val (.int m1), .val (.int m2), .val (.int m3), .val (.int m4), .val (.int m5), .val (.int m6), .val (.ref fa), .val (.ref am1028), .val (.ref wT), .val (.ref wT)] [])) _
                    refine own_back (fun t k => XS.aload X1073.here hx rfl (hb hby at_466) rfl rfl k) ?_
                    show OwnGo p e below (T1073.setTop (mkF m 468 #[.val (.int p1), .val (.int p2), .val (.int p3), .val (.int tt), .val (.int ln), .val (.int dd), .val (.int nn), .val (.ref ba), .val (.int m0), .val (.int m1), .val (.int m2), .val (.int m3), .val (.int m4), .val (.int m5), .val (.int m6), .val (.ref fa), .val (.ref am1028), .val (.ref wT), .val (.ref wT)] [(.ref wT)])) _
                    refine own_back (fun t k => XS.aload X1073.here hx rfl (hb hby at_468) rfl rfl k) ?_
                    show OwnGo p e below (T1073.setTop (mkF m 470 #[.val (.int p1), .val (.int p2), .val (.int p3), .val (.int tt), .val (.int ln), .val (.int dd), .val (.int nn), .val (.ref ba), .val (.int m0), .val (.int m1), .val (.int m2), .val (.int m3), .val (.int m4), .val (.int m5), .val (.int m6), .val (.ref fa), .val (.ref am1028), .val (.ref wT), .val (.ref wT)] [(.ref wT), (.ref wT)])) _
                    refine own_back (fun t k => Jvm.RoadKit.acmp (g := (mkF m 470 #[.val (.int p1), .val (.int p2), .val (.int p3), .val (.int tt), .val (.int ln), .val (.int dd), .val (.int nn), .val (.ref ba), .val (.int m0), .val (.int m1), .val (.int m2), .val (.int m3), .val (.int m4), .val (.int m5), .val (.int m6), .val (.ref fa), .val (.ref am1028), .val (.ref wT), .val (.ref wT)] [(.ref wT), (.ref wT)])) X1073 hx rfl rfl rfl (pc0 := 470) (pc' := 473) (same := true) rfl (hb hby at_470) rfl (decide_eq_true rfl) (by decide) (by decide) k) ?_
                    show OwnGo p e below (T1073.setTop (mkF m 473 #[.val (.int p1), .val (.int p2), .val (.int p3), .val (.int tt), .val (.int ln), .val (.int dd), .val (.int nn), .val (.ref ba), .val (.int m0), .val (.int m1), .val (.int m2), .val (.int m3), .val (.int m4), .val (.int m5), .val (.int m6), .val (.ref fa), .val (.ref am1028), .val (.ref wT), .val (.ref wT)] [])) _
                    refine own_back (fun t k => XS.iconst X1073.here hx rfl (hb hby at_473) k) ?_
                    show OwnGo p e below (T1073.setTop (mkF m 474 #[.val (.int p1), .val (.int p2), .val (.int p3), .val (.int tt), .val (.int ln), .val (.int dd), .val (.int nn), .val (.ref ba), .val (.int m0), .val (.int m1), .val (.int m2), .val (.int m3), .val (.int m4), .val (.int m5), .val (.int m6), .val (.ref fa), .val (.ref am1028), .val (.ref wT), .val (.ref wT)] [(.int (1 : Int32))])) _
                    refine own_back (fun t k => XS.goto X1073.here hx rfl (pc0 := 474) (pc' := 478) rfl (hb hby at_474) (by decide) (by decide) k) ?_
                    show OwnGo p e below (T1073.setTop (mkF m 478 #[.val (.int p1), .val (.int p2), .val (.int p3), .val (.int tt), .val (.int ln), .val (.int dd), .val (.int nn), .val (.ref ba), .val (.int m0), .val (.int m1), .val (.int m2), .val (.int m3), .val (.int m4), .val (.int m5), .val (.int m6), .val (.ref fa), .val (.ref am1028), .val (.ref wT), .val (.ref wT)] [(.int (1 : Int32))])) _
                    refine own_retNW X1073 hx Bd.notSynchronized (t := .boolean) (z := (1 : Int32)) Bd.returns (by simp) rfl hSr1028 hk1058 hZr1028 hEL (hh ▸ CR1057) (hb hby at_478) e1073 (Nat.le_of_ble_eq_true rfl) (Nat.le_of_ble_eq_true rfl) ?_
                    exact ⟨rfl, N1053⟩
                  · obtain ⟨_, _, ⟨T1074, L1074, k1074, n1074⟩, -, X1074, ⟨Lc1074, hQ1074, l1074, y1074, z1074⟩, st1074⟩ := Jvm.LawKit.callS Xr1028 hx (y := (⟨"com/example/indexwright/indexwright/bond/BondVariant", "of", "(Ljava/lang/String;)Lcom/example/indexwright/indexwright/bond/BondVariant;"⟩ : MethodName)) hownr1028 (mvT hZr1028 (hw _ (List.mem_of_getElem? (i := 26) rfl))) (mvT hZr1028 (hw _ (List.mem_of_getElem? (i := 27) rfl))) (mvT hZr1028 (hw _ (List.mem_of_getElem? (i := 28) rfl))) (mvT hZr1028 (hw _ (List.mem_of_getElem? (i := 29) rfl))) (by decide) (own_backN (W := 0) (rm_of l Z a0 hw [] am1028 (own_mk f0 f1 f2 f3 f4 f5 f6 ln) wP wT wV kV kP kT cz T1028.heap n0 Zs1031 O1029 B1028 SV AV EV FV FP FT BP BT SC hcz) hZr1028 (hw _ (List.mem_of_getElem? (i := 29) rfl)) (hw _ (List.mem_of_getElem? (i := 28) rfl)) (by decide) (by decide)) (g := (mkF m 344 #[.val (.int p1), .val (.int p2), .val (.int p3), .val (.int tt), .val (.int ln), .val (.int dd), .val (.int nn), .val (.ref ba), .val (.int m0), .val (.int m1), .val (.int m2), .val (.int m3), .val (.int m4), .val (.int m5), .val (.int m6), .val (.ref fa), .val (.ref am1028), .unset, .unset] [(.ref am1028)])) rfl (by rw [hml]; rfl) (argsL := [(.ref am1028)]) (rest := []) (lenOf lw_pd1 rfl) rfl (by show 2 * 0 + _ ≤ _; exact Nat.le_of_eq rfl) (hb hby at_344) (fun _ _ => ⟨rfl, rfl, Nat.le_of_ble_eq_true rfl, Nat.le_of_ble_eq_true rfl⟩)
                    dsimp only [Pt.U, Pt.locs, Pt.cells, Pt.slots] at X1074 l1074 y1074 z1074 st1074 hQ1074
                    subst l1074 y1074 z1074
                    rw [if_neg hP, if_neg hT] at hQ1074
                    obtain ⟨rfl, N1074q, E1074⟩ := hQ1074
                    refine own_back st1074 ?_
                    have N1074 := Fr.app N1028 N1074q
                    have O1075 := O1029.ext E1074
                    have KP1076 := KP1030.ext E1074
                    have Zs1077 := Nat.le_trans Zs1031 E1074.1
                    have CR1078 := CR1032.trans (CHr.ext E1074 CR1032.1)
                    have hk1079 := Nat.le_trans (Nat.le_refl _) E1074.1
                    have f1080 := f1033.ext E1074
                    have f1081 := B1028.ext E1074
                    show OwnGo p e below (T1074.setTop (mkF m 347 #[.val (.int p1), .val (.int p2), .val (.int p3), .val (.int tt), .val (.int ln), .val (.int dd), .val (.int nn), .val (.ref ba), .val (.int m0), .val (.int m1), .val (.int m2), .val (.int m3), .val (.int m4), .val (.int m5), .val (.int m6), .val (.ref fa), .val (.ref am1028), .unset, .unset] [.null])) _
                    refine own_back (fun t k => XS.astore X1074.here hx rfl (hb hby at_347) rfl rfl (l' := #[.val (.int p1), .val (.int p2), .val (.int p3), .val (.int tt), .val (.int ln), .val (.int dd), .val (.int nn), .val (.ref ba), .val (.int m0), .val (.int m1), .val (.int m2), .val (.int m3), .val (.int m4), .val (.int m5), .val (.int m6), .val (.ref fa), .val (.ref am1028), .val .null, .unset]) rfl k) ?_
                    show OwnGo p e below (T1074.setTop (mkF m 349 #[.val (.int p1), .val (.int p2), .val (.int p3), .val (.int tt), .val (.int ln), .val (.int dd), .val (.int nn), .val (.ref ba), .val (.int m0), .val (.int m1), .val (.int m2), .val (.int m3), .val (.int m4), .val (.int m5), .val (.int m6), .val (.ref fa), .val (.ref am1028), .val .null, .unset] [])) _
                    refine own_back (fun t k => XS.aconstNull X1074.here hx rfl (hb hby at_349) k) ?_
                    show OwnGo p e below (T1074.setTop (mkF m 350 #[.val (.int p1), .val (.int p2), .val (.int p3), .val (.int tt), .val (.int ln), .val (.int dd), .val (.int nn), .val (.ref ba), .val (.int m0), .val (.int m1), .val (.int m2), .val (.int m3), .val (.int m4), .val (.int m5), .val (.int m6), .val (.ref fa), .val (.ref am1028), .val .null, .unset] [.null])) _
                    refine own_back (fun t k => XS.astore X1074.here hx rfl (hb hby at_350) rfl rfl (l' := #[.val (.int p1), .val (.int p2), .val (.int p3), .val (.int tt), .val (.int ln), .val (.int dd), .val (.int nn), .val (.ref ba), .val (.int m0), .val (.int m1), .val (.int m2), .val (.int m3), .val (.int m4), .val (.int m5), .val (.int m6), .val (.ref fa), .val (.ref am1028), .val .null, .val .null]) rfl k) ?_
                    show OwnGo p e below (T1074.setTop (mkF m 352 #[.val (.int p1), .val (.int p2), .val (.int p3), .val (.int tt), .val (.int ln), .val (.int dd), .val (.int nn), .val (.ref ba), .val (.int m0), .val (.int m1), .val (.int m2), .val (.int m3), .val (.int m4), .val (.int m5), .val (.int m6), .val (.ref fa), .val (.ref am1028), .val .null, .val .null] [])) _
                    refine own_back (fun t k => XS.iload X1074.here hx rfl (hb hby at_352) rfl k) ?_
                    show OwnGo p e below (T1074.setTop (mkF m 354 #[.val (.int p1), .val (.int p2), .val (.int p3), .val (.int tt), .val (.int ln), .val (.int dd), .val (.int nn), .val (.ref ba), .val (.int m0), .val (.int m1), .val (.int m2), .val (.int m3), .val (.int m4), .val (.int m5), .val (.int m6), .val (.ref fa), .val (.ref am1028), .val .null, .val .null] [(.int nn)])) _
                    refine own_back (fun t k => XS.ifNo X1074.here hx rfl (hb hby at_354) rfl (Jvm.Free.XT.i0_ne_f hc326_1027) k) ?_
                    show OwnGo p e below (T1074.setTop (mkF m 357 #[.val (.int p1), .val (.int p2), .val (.int p3), .val (.int tt), .val (.int ln), .val (.int dd), .val (.int nn), .val (.ref ba), .val (.int m0), .val (.int m1), .val (.int m2), .val (.int m3), .val (.int m4), .val (.int m5), .val (.int m6), .val (.ref fa), .val (.ref am1028), .val .null, .val .null] [])) _
                    refine own_back (fun t k => XS.iload X1074.here hx rfl (hb hby at_357) rfl k) ?_
                    show OwnGo p e below (T1074.setTop (mkF m 359 #[.val (.int p1), .val (.int p2), .val (.int p3), .val (.int tt), .val (.int ln), .val (.int dd), .val (.int nn), .val (.ref ba), .val (.int m0), .val (.int m1), .val (.int m2), .val (.int m3), .val (.int m4), .val (.int m5), .val (.int m6), .val (.ref fa), .val (.ref am1028), .val .null, .val .null] [(.int ln)])) _
                    refine own_back (fun t k => XS.iconst X1074.here hx rfl (hb hby at_359) k) ?_
                    show OwnGo p e below (T1074.setTop (mkF m 360 #[.val (.int p1), .val (.int p2), .val (.int p3), .val (.int tt), .val (.int ln), .val (.int dd), .val (.int nn), .val (.ref ba), .val (.int m0), .val (.int m1), .val (.int m2), .val (.int m3), .val (.int m4), .val (.int m5), .val (.int m6), .val (.ref fa), .val (.ref am1028), .val .null, .val .null] [(.int (5 : Int32)), (.int ln)])) _
                    by_cases hc360_1082 : ln = (5 : Int32)
                    · refine own_back (fun t k => XS.icmpNo X1074.here hx rfl (hb hby at_360) rfl (Jvm.Free.XT.ii_ne_f hc360_1082) k) ?_
                      show OwnGo p e below (T1074.setTop (mkF m 363 #[.val (.int p1), .val (.int p2), .val (.int p3), .val (.int tt), .val (.int ln), .val (.int dd), .val (.int nn), .val (.ref ba), .val (.int m0), .val (.int m1), .val (.int m2), .val (.int m3), .val (.int m4), .val (.int m5), .val (.int m6), .val (.ref fa), .val (.ref am1028), .val .null, .val .null] [])) _
                      have tl416_1083 : ∀ (Tj1083 : State) (hj1083 : Heap), OwnSt p l e room_1 s m #[(.int p1), (.int p2), (.int p3)] below meth c Z own_EL "com/example/indexwright/indexwright/bond/BondVariantOfPinLaw" n0 h0 [] Tj1083 hj1083 9 34 → (OwnStr Z hj1083 am1028 (own_mk f0 f1 f2 f3 f4 f5 f6 ln)) → (Arv Z hj1083 fa kf .char (7 : Int32) [.int f0, .int f1, .int f2, .int f3, .int f4, .int f5, .int f6] (.int 0)) → OwnGo p e below (Tj1083.setTop (mkF m 416 #[.val (.int p1), .val (.int p2), .val (.int p3), .val (.int tt), .val (.int ln), .val (.int dd), .val (.int nn), .val (.ref ba), .val (.int m0), .val (.int m1), .val (.int m2), .val (.int m3), .val (.int m4), .val (.int m5), .val (.int m6), .val (.ref fa), .val (.ref am1028), .val .null, .val .null] [])) (OwnEndW Z own_EL s (fun v h L => v = some (.int 1) ∧ Fr n0 L) room_1.cells room_1.slots) := by
                        intro Tj1083 hj1083 HS1083 hs1083_0 hs1083_1
                        obtain ⟨vj1083, kj1083, Lj1083, Xj1083, ej1083, hSj1083, hkj1083, hZj1083, hownj1083, CRj1083, Oj1083, KPj1083, Zj1083, Nj1083⟩ := HS1083
                        show OwnGo p e below (Tj1083.setTop (mkF m 416 #[.val (.int p1), .val (.int p2), .val (.int p3), .val (.int tt), .val (.int ln), .val (.int dd), .val (.int nn), .val (.ref ba), .val (.int m0), .val (.int m1), .val (.int m2), .val (.int m3), .val (.int m4), .val (.int m5), .val (.int m6), .val (.ref fa), .val (.ref am1028), .val .null, .val .null] [])) _
                        refine own_back (fun t k => XS.aload Xj1083.here hx rfl (hb hby at_416) rfl rfl k) ?_
                        show OwnGo p e below (Tj1083.setTop (mkF m 418 #[.val (.int p1), .val (.int p2), .val (.int p3), .val (.int tt), .val (.int ln), .val (.int dd), .val (.int nn), .val (.ref ba), .val (.int m0), .val (.int m1), .val (.int m2), .val (.int m3), .val (.int m4), .val (.int m5), .val (.int m6), .val (.ref fa), .val (.ref am1028), .val .null, .val .null] [(.ref fa)])) _
                        refine own_back (fun t k => XS.iconst Xj1083.here hx rfl (hb hby at_418) k) ?_
                        show OwnGo p e below (Tj1083.setTop (mkF m 419 #[.val (.int p1), .val (.int p2), .val (.int p3), .val (.int tt), .val (.int ln), .val (.int dd), .val (.int nn), .val (.ref ba), .val (.int m0), .val (.int m1), .val (.int m2), .val (.int m3), .val (.int m4), .val (.int m5), .val (.int m6), .val (.ref fa), .val (.ref am1028), .val .null, .val .null] [(.int (0 : Int32)), (.ref fa)])) _
                        obtain ⟨c1084, A1084, q1084, S1084, M1084, H1084, U1084⟩ := id hs1083_1
                        have ib1085 : ¬ ((0 : Int32) < 0 ∨ c1084.slots.size ≤ ((0 : Int32)).toNatClampNeg) := (inb_of S1084 ⟨by decide, by decide⟩)
                        refine own_back (fun t k => Xj1083.caload hx (j := (0 : Int32)) (v := (.int f0)) (own_hat ej1083 A1084.1) (State.isArrayOf_alike hZj1083.alike A1084.2.1) A1084.2.2 ib1085 (H1084.at ib1085 rfl) (g := (mkF m 419 #[.val (.int p1), .val (.int p2), .val (.int p3), .val (.int tt), .val (.int ln), .val (.int dd), .val (.int nn), .val (.ref ba), .val (.int m0), .val (.int m1), .val (.int m2), .val (.int m3), .val (.int m4), .val (.int m5), .val (.int m6), .val (.ref fa), .val (.ref am1028), .val .null, .val .null] [(.int (0 : Int32)), (.ref fa)])) rfl rfl (hb hby at_419) t k) ?_
                        show OwnGo p e below (Tj1083.setTop (mkF m 420 #[.val (.int p1), .val (.int p2), .val (.int p3), .val (.int tt), .val (.int ln), .val (.int dd), .val (.int nn), .val (.ref ba), .val (.int m0), .val (.int m1), .val (.int m2), .val (.int m3), .val (.int m4), .val (.int m5), .val (.int m6), .val (.ref fa), .val (.ref am1028), .val .null, .val .null] [(.int f0)])) _
                        refine own_back (fun t k => XS.bipush Xj1083.here hx rfl (hb hby at_420) k) ?_
                        show OwnGo p e below (Tj1083.setTop (mkF m 422 #[.val (.int p1), .val (.int p2), .val (.int p3), .val (.int tt), .val (.int ln), .val (.int dd), .val (.int nn), .val (.ref ba), .val (.int m0), .val (.int m1), .val (.int m2), .val (.int m3), .val (.int m4), .val (.int m5), .val (.int m6), .val (.ref fa), .val (.ref am1028), .val .null, .val .null] [(.int (116 : Int32)), (.int f0)])) _
                        by_cases hc422_1086 : f0 = (116 : Int32)
                        · refine own_back (fun t k => XS.icmpNo Xj1083.here hx rfl (hb hby at_422) rfl (Jvm.Free.XT.ii_ne_f hc422_1086) k) ?_
                          show OwnGo p e below (Tj1083.setTop (mkF m 425 #[.val (.int p1), .val (.int p2), .val (.int p3), .val (.int tt), .val (.int ln), .val (.int dd), .val (.int nn), .val (.ref ba), .val (.int m0), .val (.int m1), .val (.int m2), .val (.int m3), .val (.int m4), .val (.int m5), .val (.int m6), .val (.ref fa), .val (.ref am1028), .val .null, .val .null] [])) _
                          refine own_back (fun t k => XS.aload Xj1083.here hx rfl (hb hby at_425) rfl rfl k) ?_
                          show OwnGo p e below (Tj1083.setTop (mkF m 427 #[.val (.int p1), .val (.int p2), .val (.int p3), .val (.int tt), .val (.int ln), .val (.int dd), .val (.int nn), .val (.ref ba), .val (.int m0), .val (.int m1), .val (.int m2), .val (.int m3), .val (.int m4), .val (.int m5), .val (.int m6), .val (.ref fa), .val (.ref am1028), .val .null, .val .null] [(.ref fa)])) _
                          refine own_back (fun t k => XS.iconst Xj1083.here hx rfl (hb hby at_427) k) ?_
                          show OwnGo p e below (Tj1083.setTop (mkF m 428 #[.val (.int p1), .val (.int p2), .val (.int p3), .val (.int tt), .val (.int ln), .val (.int dd), .val (.int nn), .val (.ref ba), .val (.int m0), .val (.int m1), .val (.int m2), .val (.int m3), .val (.int m4), .val (.int m5), .val (.int m6), .val (.ref fa), .val (.ref am1028), .val .null, .val .null] [(.int (1 : Int32)), (.ref fa)])) _
                          obtain ⟨c1087, A1087, q1087, S1087, M1087, H1087, U1087⟩ := id hs1083_1
                          have ib1088 : ¬ ((1 : Int32) < 0 ∨ c1087.slots.size ≤ ((1 : Int32)).toNatClampNeg) := (inb_of S1087 ⟨by decide, by decide⟩)
                          refine own_back (fun t k => Xj1083.caload hx (j := (1 : Int32)) (v := (.int f1)) (own_hat ej1083 A1087.1) (State.isArrayOf_alike hZj1083.alike A1087.2.1) A1087.2.2 ib1088 (H1087.at ib1088 rfl) (g := (mkF m 428 #[.val (.int p1), .val (.int p2), .val (.int p3), .val (.int tt), .val (.int ln), .val (.int dd), .val (.int nn), .val (.ref ba), .val (.int m0), .val (.int m1), .val (.int m2), .val (.int m3), .val (.int m4), .val (.int m5), .val (.int m6), .val (.ref fa), .val (.ref am1028), .val .null, .val .null] [(.int (1 : Int32)), (.ref fa)])) rfl rfl (hb hby at_428) t k) ?_
                          show OwnGo p e below (Tj1083.setTop (mkF m 429 #[.val (.int p1), .val (.int p2), .val (.int p3), .val (.int tt), .val (.int ln), .val (.int dd), .val (.int nn), .val (.ref ba), .val (.int m0), .val (.int m1), .val (.int m2), .val (.int m3), .val (.int m4), .val (.int m5), .val (.int m6), .val (.ref fa), .val (.ref am1028), .val .null, .val .null] [(.int f1)])) _
                          refine own_back (fun t k => XS.bipush Xj1083.here hx rfl (hb hby at_429) k) ?_
                          show OwnGo p e below (Tj1083.setTop (mkF m 431 #[.val (.int p1), .val (.int p2), .val (.int p3), .val (.int tt), .val (.int ln), .val (.int dd), .val (.int nn), .val (.ref ba), .val (.int m0), .val (.int m1), .val (.int m2), .val (.int m3), .val (.int m4), .val (.int m5), .val (.int m6), .val (.ref fa), .val (.ref am1028), .val .null, .val .null] [(.int (111 : Int32)), (.int f1)])) _
                          by_cases hc431_1089 : f1 = (111 : Int32)
                          · refine own_back (fun t k => XS.icmpNo Xj1083.here hx rfl (hb hby at_431) rfl (Jvm.Free.XT.ii_ne_f hc431_1089) k) ?_
                            show OwnGo p e below (Tj1083.setTop (mkF m 434 #[.val (.int p1), .val (.int p2), .val (.int p3), .val (.int tt), .val (.int ln), .val (.int dd), .val (.int nn), .val (.ref ba), .val (.int m0), .val (.int m1), .val (.int m2), .val (.int m3), .val (.int m4), .val (.int m5), .val (.int m6), .val (.ref fa), .val (.ref am1028), .val .null, .val .null] [])) _
                            refine own_back (fun t k => XS.aload Xj1083.here hx rfl (hb hby at_434) rfl rfl k) ?_
                            show OwnGo p e below (Tj1083.setTop (mkF m 436 #[.val (.int p1), .val (.int p2), .val (.int p3), .val (.int tt), .val (.int ln), .val (.int dd), .val (.int nn), .val (.ref ba), .val (.int m0), .val (.int m1), .val (.int m2), .val (.int m3), .val (.int m4), .val (.int m5), .val (.int m6), .val (.ref fa), .val (.ref am1028), .val .null, .val .null] [(.ref fa)])) _
                            refine own_back (fun t k => XS.iconst Xj1083.here hx rfl (hb hby at_436) k) ?_
                            show OwnGo p e below (Tj1083.setTop (mkF m 437 #[.val (.int p1), .val (.int p2), .val (.int p3), .val (.int tt), .val (.int ln), .val (.int dd), .val (.int nn), .val (.ref ba), .val (.int m0), .val (.int m1), .val (.int m2), .val (.int m3), .val (.int m4), .val (.int m5), .val (.int m6), .val (.ref fa), .val (.ref am1028), .val .null, .val .null] [(.int (2 : Int32)), (.ref fa)])) _
                            obtain ⟨c1090, A1090, q1090, S1090, M1090, H1090, U1090⟩ := id hs1083_1
                            have ib1091 : ¬ ((2 : Int32) < 0 ∨ c1090.slots.size ≤ ((2 : Int32)).toNatClampNeg) := (inb_of S1090 ⟨by decide, by decide⟩)
                            refine own_back (fun t k => Xj1083.caload hx (j := (2 : Int32)) (v := (.int f2)) (own_hat ej1083 A1090.1) (State.isArrayOf_alike hZj1083.alike A1090.2.1) A1090.2.2 ib1091 (H1090.at ib1091 rfl) (g := (mkF m 437 #[.val (.int p1), .val (.int p2), .val (.int p3), .val (.int tt), .val (.int ln), .val (.int dd), .val (.int nn), .val (.ref ba), .val (.int m0), .val (.int m1), .val (.int m2), .val (.int m3), .val (.int m4), .val (.int m5), .val (.int m6), .val (.ref fa), .val (.ref am1028), .val .null, .val .null] [(.int (2 : Int32)), (.ref fa)])) rfl rfl (hb hby at_437) t k) ?_
                            show OwnGo p e below (Tj1083.setTop (mkF m 438 #[.val (.int p1), .val (.int p2), .val (.int p3), .val (.int tt), .val (.int ln), .val (.int dd), .val (.int nn), .val (.ref ba), .val (.int m0), .val (.int m1), .val (.int m2), .val (.int m3), .val (.int m4), .val (.int m5), .val (.int m6), .val (.ref fa), .val (.ref am1028), .val .null, .val .null] [(.int f2)])) _
                            refine own_back (fun t k => XS.bipush Xj1083.here hx rfl (hb hby at_438) k) ?_
                            show OwnGo p e below (Tj1083.setTop (mkF m 440 #[.val (.int p1), .val (.int p2), .val (.int p3), .val (.int tt), .val (.int ln), .val (.int dd), .val (.int nn), .val (.ref ba), .val (.int m0), .val (.int m1), .val (.int m2), .val (.int m3), .val (.int m4), .val (.int m5), .val (.int m6), .val (.ref fa), .val (.ref am1028), .val .null, .val .null] [(.int (116 : Int32)), (.int f2)])) _
                            by_cases hc440_1092 : f2 = (116 : Int32)
                            · refine own_back (fun t k => XS.icmpNo Xj1083.here hx rfl (hb hby at_440) rfl (Jvm.Free.XT.ii_ne_f hc440_1092) k) ?_
                              show OwnGo p e below (Tj1083.setTop (mkF m 443 #[.val (.int p1), .val (.int p2), .val (.int p3), .val (.int tt), .val (.int ln), .val (.int dd), .val (.int nn), .val (.ref ba), .val (.int m0), .val (.int m1), .val (.int m2), .val (.int m3), .val (.int m4), .val (.int m5), .val (.int m6), .val (.ref fa), .val (.ref am1028), .val .null, .val .null] [])) _
                              refine own_back (fun t k => XS.aload Xj1083.here hx rfl (hb hby at_443) rfl rfl k) ?_
                              show OwnGo p e below (Tj1083.setTop (mkF m 445 #[.val (.int p1), .val (.int p2), .val (.int p3), .val (.int tt), .val (.int ln), .val (.int dd), .val (.int nn), .val (.ref ba), .val (.int m0), .val (.int m1), .val (.int m2), .val (.int m3), .val (.int m4), .val (.int m5), .val (.int m6), .val (.ref fa), .val (.ref am1028), .val .null, .val .null] [(.ref fa)])) _
                              refine own_back (fun t k => XS.iconst Xj1083.here hx rfl (hb hby at_445) k) ?_
                              show OwnGo p e below (Tj1083.setTop (mkF m 446 #[.val (.int p1), .val (.int p2), .val (.int p3), .val (.int tt), .val (.int ln), .val (.int dd), .val (.int nn), .val (.ref ba), .val (.int m0), .val (.int m1), .val (.int m2), .val (.int m3), .val (.int m4), .val (.int m5), .val (.int m6), .val (.ref fa), .val (.ref am1028), .val .null, .val .null] [(.int (3 : Int32)), (.ref fa)])) _
                              obtain ⟨c1093, A1093, q1093, S1093, M1093, H1093, U1093⟩ := id hs1083_1
                              have ib1094 : ¬ ((3 : Int32) < 0 ∨ c1093.slots.size ≤ ((3 : Int32)).toNatClampNeg) := (inb_of S1093 ⟨by decide, by decide⟩)
                              refine own_back (fun t k => Xj1083.caload hx (j := (3 : Int32)) (v := (.int f3)) (own_hat ej1083 A1093.1) (State.isArrayOf_alike hZj1083.alike A1093.2.1) A1093.2.2 ib1094 (H1093.at ib1094 rfl) (g := (mkF m 446 #[.val (.int p1), .val (.int p2), .val (.int p3), .val (.int tt), .val (.int ln), .val (.int dd), .val (.int nn), .val (.ref ba), .val (.int m0), .val (.int m1), .val (.int m2), .val (.int m3), .val (.int m4), .val (.int m5), .val (.int m6), .val (.ref fa), .val (.ref am1028), .val .null, .val .null] [(.int (3 : Int32)), (.ref fa)])) rfl rfl (hb hby at_446) t k) ?_
                              show OwnGo p e below (Tj1083.setTop (mkF m 447 #[.val (.int p1), .val (.int p2), .val (.int p3), .val (.int tt), .val (.int ln), .val (.int dd), .val (.int nn), .val (.ref ba), .val (.int m0), .val (.int m1), .val (.int m2), .val (.int m3), .val (.int m4), .val (.int m5), .val (.int m6), .val (.ref fa), .val (.ref am1028), .val .null, .val .null] [(.int f3)])) _
                              refine own_back (fun t k => XS.bipush Xj1083.here hx rfl (hb hby at_447) k) ?_
                              show OwnGo p e below (Tj1083.setTop (mkF m 449 #[.val (.int p1), .val (.int p2), .val (.int p3), .val (.int tt), .val (.int ln), .val (.int dd), .val (.int nn), .val (.ref ba), .val (.int m0), .val (.int m1), .val (.int m2), .val (.int m3), .val (.int m4), .val (.int m5), .val (.int m6), .val (.ref fa), .val (.ref am1028), .val .null, .val .null] [(.int (97 : Int32)), (.int f3)])) _
                              by_cases hc449_1095 : f3 = (97 : Int32)
                              · refine own_back (fun t k => XS.icmpNo Xj1083.here hx rfl (hb hby at_449) rfl (Jvm.Free.XT.ii_ne_f hc449_1095) k) ?_
                                show OwnGo p e below (Tj1083.setTop (mkF m 452 #[.val (.int p1), .val (.int p2), .val (.int p3), .val (.int tt), .val (.int ln), .val (.int dd), .val (.int nn), .val (.ref ba), .val (.int m0), .val (.int m1), .val (.int m2), .val (.int m3), .val (.int m4), .val (.int m5), .val (.int m6), .val (.ref fa), .val (.ref am1028), .val .null, .val .null] [])) _
                                refine own_back (fun t k => XS.aload Xj1083.here hx rfl (hb hby at_452) rfl rfl k) ?_
                                show OwnGo p e below (Tj1083.setTop (mkF m 454 #[.val (.int p1), .val (.int p2), .val (.int p3), .val (.int tt), .val (.int ln), .val (.int dd), .val (.int nn), .val (.ref ba), .val (.int m0), .val (.int m1), .val (.int m2), .val (.int m3), .val (.int m4), .val (.int m5), .val (.int m6), .val (.ref fa), .val (.ref am1028), .val .null, .val .null] [(.ref fa)])) _
                                refine own_back (fun t k => XS.iconst Xj1083.here hx rfl (hb hby at_454) k) ?_
                                show OwnGo p e below (Tj1083.setTop (mkF m 455 #[.val (.int p1), .val (.int p2), .val (.int p3), .val (.int tt), .val (.int ln), .val (.int dd), .val (.int nn), .val (.ref ba), .val (.int m0), .val (.int m1), .val (.int m2), .val (.int m3), .val (.int m4), .val (.int m5), .val (.int m6), .val (.ref fa), .val (.ref am1028), .val .null, .val .null] [(.int (4 : Int32)), (.ref fa)])) _
                                obtain ⟨c1096, A1096, q1096, S1096, M1096, H1096, U1096⟩ := id hs1083_1
                                have ib1097 : ¬ ((4 : Int32) < 0 ∨ c1096.slots.size ≤ ((4 : Int32)).toNatClampNeg) := (inb_of S1096 ⟨by decide, by decide⟩)
                                refine own_back (fun t k => Xj1083.caload hx (j := (4 : Int32)) (v := (.int f4)) (own_hat ej1083 A1096.1) (State.isArrayOf_alike hZj1083.alike A1096.2.1) A1096.2.2 ib1097 (H1096.at ib1097 rfl) (g := (mkF m 455 #[.val (.int p1), .val (.int p2), .val (.int p3), .val (.int tt), .val (.int ln), .val (.int dd), .val (.int nn), .val (.ref ba), .val (.int m0), .val (.int m1), .val (.int m2), .val (.int m3), .val (.int m4), .val (.int m5), .val (.int m6), .val (.ref fa), .val (.ref am1028), .val .null, .val .null] [(.int (4 : Int32)), (.ref fa)])) rfl rfl (hb hby at_455) t k) ?_
                                show OwnGo p e below (Tj1083.setTop (mkF m 456 #[.val (.int p1), .val (.int p2), .val (.int p3), .val (.int tt), .val (.int ln), .val (.int dd), .val (.int nn), .val (.ref ba), .val (.int m0), .val (.int m1), .val (.int m2), .val (.int m3), .val (.int m4), .val (.int m5), .val (.int m6), .val (.ref fa), .val (.ref am1028), .val .null, .val .null] [(.int f4)])) _
                                refine own_back (fun t k => XS.bipush Xj1083.here hx rfl (hb hby at_456) k) ?_
                                show OwnGo p e below (Tj1083.setTop (mkF m 458 #[.val (.int p1), .val (.int p2), .val (.int p3), .val (.int tt), .val (.int ln), .val (.int dd), .val (.int nn), .val (.ref ba), .val (.int m0), .val (.int m1), .val (.int m2), .val (.int m3), .val (.int m4), .val (.int m5), .val (.int m6), .val (.ref fa), .val (.ref am1028), .val .null, .val .null] [(.int (108 : Int32)), (.int f4)])) _
                                by_cases hc458_1098 : f4 = (108 : Int32)
                                · refine own_back (fun t k => XS.icmpNo Xj1083.here hx rfl (hb hby at_458) rfl (Jvm.Free.XT.ii_ne_f hc458_1098) k) ?_
                                  show OwnGo p e below (Tj1083.setTop (mkF m 461 #[.val (.int p1), .val (.int p2), .val (.int p3), .val (.int tt), .val (.int ln), .val (.int dd), .val (.int nn), .val (.ref ba), .val (.int m0), .val (.int m1), .val (.int m2), .val (.int m3), .val (.int m4), .val (.int m5), .val (.int m6), .val (.ref fa), .val (.ref am1028), .val .null, .val .null] [])) _
                                  exact absurd (own_to5 hc360_1082 (by rw [hc422_1086]; decide) (by rw [hc431_1089]; decide) (by rw [hc440_1092]; decide) (by rw [hc449_1095]; decide) (by rw [hc458_1098]; decide)) hT
                                · refine own_back (fun t k => XS.icmpYes Xj1083.here hx rfl (pc0 := 458) (pc' := 466) rfl (hb hby at_458) rfl (Jvm.Free.XT.ii_ne_t hc458_1098) (by decide) (by decide) k) ?_
                                  show OwnGo p e below (Tj1083.setTop (mkF m 466 #[.val (.int p1), .val (.int p2), .val (.int p3), .val (.int tt), .val (.int ln), .val (.int dd), .val (.int nn), .val (.ref ba), .val (.int m0), .val (.int m1), .val (.int m2), .val (.int m3), .val (.int m4), .val (.int m5), .val (.int m6), .val (.ref fa), .val (.ref am1028), .val .null, .val .null] [])) _
                                  refine own_back (fun t k => XS.aload Xj1083.here hx rfl (hb hby at_466) rfl rfl k) ?_
                                  show OwnGo p e below (Tj1083.setTop (mkF m 468 #[.val (.int p1), .val (.int p2), .val (.int p3), .val (.int tt), .val (.int ln), .val (.int dd), .val (.int nn), .val (.ref ba), .val (.int m0), .val (.int m1), .val (.int m2), .val (.int m3), .val (.int m4), .val (.int m5), .val (.int m6), .val (.ref fa), .val (.ref am1028), .val .null, .val .null] [.null])) _
                                  refine own_back (fun t k => XS.aload Xj1083.here hx rfl (hb hby at_468) rfl rfl k) ?_
                                  show OwnGo p e below (Tj1083.setTop (mkF m 470 #[.val (.int p1), .val (.int p2), .val (.int p3), .val (.int tt), .val (.int ln), .val (.int dd), .val (.int nn), .val (.ref ba), .val (.int m0), .val (.int m1), .val (.int m2), .val (.int m3), .val (.int m4), .val (.int m5), .val (.int m6), .val (.ref fa), .val (.ref am1028), .val .null, .val .null] [.null, .null])) _
                                  refine own_back (fun t k => Jvm.RoadKit.acmp (g := (mkF m 470 #[.val (.int p1), .val (.int p2), .val (.int p3), .val (.int tt), .val (.int ln), .val (.int dd), .val (.int nn), .val (.ref ba), .val (.int m0), .val (.int m1), .val (.int m2), .val (.int m3), .val (.int m4), .val (.int m5), .val (.int m6), .val (.ref fa), .val (.ref am1028), .val .null, .val .null] [.null, .null])) Xj1083 hx rfl rfl rfl (pc0 := 470) (pc' := 473) (same := true) rfl (hb hby at_470) rfl (decide_eq_true rfl) (by decide) (by decide) k) ?_
                                  show OwnGo p e below (Tj1083.setTop (mkF m 473 #[.val (.int p1), .val (.int p2), .val (.int p3), .val (.int tt), .val (.int ln), .val (.int dd), .val (.int nn), .val (.ref ba), .val (.int m0), .val (.int m1), .val (.int m2), .val (.int m3), .val (.int m4), .val (.int m5), .val (.int m6), .val (.ref fa), .val (.ref am1028), .val .null, .val .null] [])) _
                                  refine own_back (fun t k => XS.iconst Xj1083.here hx rfl (hb hby at_473) k) ?_
                                  show OwnGo p e below (Tj1083.setTop (mkF m 474 #[.val (.int p1), .val (.int p2), .val (.int p3), .val (.int tt), .val (.int ln), .val (.int dd), .val (.int nn), .val (.ref ba), .val (.int m0), .val (.int m1), .val (.int m2), .val (.int m3), .val (.int m4), .val (.int m5), .val (.int m6), .val (.ref fa), .val (.ref am1028), .val .null, .val .null] [(.int (1 : Int32))])) _
                                  refine own_back (fun t k => XS.goto Xj1083.here hx rfl (pc0 := 474) (pc' := 478) rfl (hb hby at_474) (by decide) (by decide) k) ?_
                                  show OwnGo p e below (Tj1083.setTop (mkF m 478 #[.val (.int p1), .val (.int p2), .val (.int p3), .val (.int tt), .val (.int ln), .val (.int dd), .val (.int nn), .val (.ref ba), .val (.int m0), .val (.int m1), .val (.int m2), .val (.int m3), .val (.int m4), .val (.int m5), .val (.int m6), .val (.ref fa), .val (.ref am1028), .val .null, .val .null] [(.int (1 : Int32))])) _
                                  refine own_retNW Xj1083 hx Bd.notSynchronized (t := .boolean) (z := (1 : Int32)) Bd.returns (by simp) rfl hSj1083 hkj1083 hZj1083 hEL (hh ▸ CRj1083) (hb hby at_478) ej1083 (Nat.le_of_ble_eq_true rfl) (Nat.le_of_ble_eq_true rfl) ?_
                                  exact ⟨rfl, Nj1083⟩
                              · refine own_back (fun t k => XS.icmpYes Xj1083.here hx rfl (pc0 := 449) (pc' := 466) rfl (hb hby at_449) rfl (Jvm.Free.XT.ii_ne_t hc449_1095) (by decide) (by decide) k) ?_
                                show OwnGo p e below (Tj1083.setTop (mkF m 466 #[.val (.int p1), .val (.int p2), .val (.int p3), .val (.int tt), .val (.int ln), .val (.int dd), .val (.int nn), .val (.ref ba), .val (.int m0), .val (.int m1), .val (.int m2), .val (.int m3), .val (.int m4), .val (.int m5), .val (.int m6), .val (.ref fa), .val (.ref am1028), .val .null, .val .null] [])) _
                                refine own_back (fun t k => XS.aload Xj1083.here hx rfl (hb hby at_466) rfl rfl k) ?_
                                show OwnGo p e below (Tj1083.setTop (mkF m 468 #[.val (.int p1), .val (.int p2), .val (.int p3), .val (.int tt), .val (.int ln), .val (.int dd), .val (.int nn), .val (.ref ba), .val (.int m0), .val (.int m1), .val (.int m2), .val (.int m3), .val (.int m4), .val (.int m5), .val (.int m6), .val (.ref fa), .val (.ref am1028), .val .null, .val .null] [.null])) _
                                refine own_back (fun t k => XS.aload Xj1083.here hx rfl (hb hby at_468) rfl rfl k) ?_
                                show OwnGo p e below (Tj1083.setTop (mkF m 470 #[.val (.int p1), .val (.int p2), .val (.int p3), .val (.int tt), .val (.int ln), .val (.int dd), .val (.int nn), .val (.ref ba), .val (.int m0), .val (.int m1), .val (.int m2), .val (.int m3), .val (.int m4), .val (.int m5), .val (.int m6), .val (.ref fa), .val (.ref am1028), .val .null, .val .null] [.null, .null])) _
                                refine own_back (fun t k => Jvm.RoadKit.acmp (g := (mkF m 470 #[.val (.int p1), .val (.int p2), .val (.int p3), .val (.int tt), .val (.int ln), .val (.int dd), .val (.int nn), .val (.ref ba), .val (.int m0), .val (.int m1), .val (.int m2), .val (.int m3), .val (.int m4), .val (.int m5), .val (.int m6), .val (.ref fa), .val (.ref am1028), .val .null, .val .null] [.null, .null])) Xj1083 hx rfl rfl rfl (pc0 := 470) (pc' := 473) (same := true) rfl (hb hby at_470) rfl (decide_eq_true rfl) (by decide) (by decide) k) ?_
                                show OwnGo p e below (Tj1083.setTop (mkF m 473 #[.val (.int p1), .val (.int p2), .val (.int p3), .val (.int tt), .val (.int ln), .val (.int dd), .val (.int nn), .val (.ref ba), .val (.int m0), .val (.int m1), .val (.int m2), .val (.int m3), .val (.int m4), .val (.int m5), .val (.int m6), .val (.ref fa), .val (.ref am1028), .val .null, .val .null] [])) _
                                refine own_back (fun t k => XS.iconst Xj1083.here hx rfl (hb hby at_473) k) ?_
                                show OwnGo p e below (Tj1083.setTop (mkF m 474 #[.val (.int p1), .val (.int p2), .val (.int p3), .val (.int tt), .val (.int ln), .val (.int dd), .val (.int nn), .val (.ref ba), .val (.int m0), .val (.int m1), .val (.int m2), .val (.int m3), .val (.int m4), .val (.int m5), .val (.int m6), .val (.ref fa), .val (.ref am1028), .val .null, .val .null] [(.int (1 : Int32))])) _
                                refine own_back (fun t k => XS.goto Xj1083.here hx rfl (pc0 := 474) (pc' := 478) rfl (hb hby at_474) (by decide) (by decide) k) ?_
                                show OwnGo p e below (Tj1083.setTop (mkF m 478 #[.val (.int p1), .val (.int p2), .val (.int p3), .val (.int tt), .val (.int ln), .val (.int dd), .val (.int nn), .val (.ref ba), .val (.int m0), .val (.int m1), .val (.int m2), .val (.int m3), .val (.int m4), .val (.int m5), .val (.int m6), .val (.ref fa), .val (.ref am1028), .val .null, .val .null] [(.int (1 : Int32))])) _
                                refine own_retNW Xj1083 hx Bd.notSynchronized (t := .boolean) (z := (1 : Int32)) Bd.returns (by simp) rfl hSj1083 hkj1083 hZj1083 hEL (hh ▸ CRj1083) (hb hby at_478) ej1083 (Nat.le_of_ble_eq_true rfl) (Nat.le_of_ble_eq_true rfl) ?_
                                exact ⟨rfl, Nj1083⟩
                            · refine own_back (fun t k => XS.icmpYes Xj1083.here hx rfl (pc0 := 440) (pc' := 466) rfl (hb hby at_440) rfl (Jvm.Free.XT.ii_ne_t hc440_1092) (by decide) (by decide) k) ?_
                              show OwnGo p e below (Tj1083.setTop (mkF m 466 #[.val (.int p1), .val (.int p2), .val (.int p3), .val (.int tt), .val (.int ln), .val (.int dd), .val (.int nn), .val (.ref ba), .val (.int m0), .val (.int m1), .val (.int m2), .val (.int m3), .val (.int m4), .val (.int m5), .val (.int m6), .val (.ref fa), .val (.ref am1028), .val .null, .val .null] [])) _
                              refine own_back (fun t k => XS.aload Xj1083.here hx rfl (hb hby at_466) rfl rfl k) ?_
                              show OwnGo p e below (Tj1083.setTop (mkF m 468 #[.val (.int p1), .val (.int p2), .val (.int p3), .val (.int tt), .val (.int ln), .val (.int dd), .val (.int nn), .val (.ref ba), .val (.int m0), .val (.int m1), .val (.int m2), .val (.int m3), .val (.int m4), .val (.int m5), .val (.int m6), .val (.ref fa), .val (.ref am1028), .val .null, .val .null] [.null])) _
                              refine own_back (fun t k => XS.aload Xj1083.here hx rfl (hb hby at_468) rfl rfl k) ?_
                              show OwnGo p e below (Tj1083.setTop (mkF m 470 #[.val (.int p1), .val (.int p2), .val (.int p3), .val (.int tt), .val (.int ln), .val (.int dd), .val (.int nn), .val (.ref ba), .val (.int m0), .val (.int m1), .val (.int m2), .val (.int m3), .val (.int m4), .val (.int m5), .val (.int m6), .val (.ref fa), .val (.ref am1028), .val .null, .val .null] [.null, .null])) _
                              refine own_back (fun t k => Jvm.RoadKit.acmp (g := (mkF m 470 #[.val (.int p1), .val (.int p2), .val (.int p3), .val (.int tt), .val (.int ln), .val (.int dd), .val (.int nn), .val (.ref ba), .val (.int m0), .val (.int m1), .val (.int m2), .val (.int m3), .val (.int m4), .val (.int m5), .val (.int m6), .val (.ref fa), .val (.ref am1028), .val .null, .val .null] [.null, .null])) Xj1083 hx rfl rfl rfl (pc0 := 470) (pc' := 473) (same := true) rfl (hb hby at_470) rfl (decide_eq_true rfl) (by decide) (by decide) k) ?_
                              show OwnGo p e below (Tj1083.setTop (mkF m 473 #[.val (.int p1), .val (.int p2), .val (.int p3), .val (.int tt), .val (.int ln), .val (.int dd), .val (.int nn), .val (.ref ba), .val (.int m0), .val (.int m1), .val (.int m2), .val (.int m3), .val (.int m4), .val (.int m5), .val (.int m6), .val (.ref fa), .val (.ref am1028), .val .null, .val .null] [])) _
                              refine own_back (fun t k => XS.iconst Xj1083.here hx rfl (hb hby at_473) k) ?_
                              show OwnGo p e below (Tj1083.setTop (mkF m 474 #[.val (.int p1), .val (.int p2), .val (.int p3), .val (.int tt), .val (.int ln), .val (.int dd), .val (.int nn), .val (.ref ba), .val (.int m0), .val (.int m1), .val (.int m2), .val (.int m3), .val (.int m4), .val (.int m5), .val (.int m6), .val (.ref fa), .val (.ref am1028), .val .null, .val .null] [(.int (1 : Int32))])) _
                              refine own_back (fun t k => XS.goto Xj1083.here hx rfl (pc0 := 474) (pc' := 478) rfl (hb hby at_474) (by decide) (by decide) k) ?_
                              show OwnGo p e below (Tj1083.setTop (mkF m 478 #[.val (.int p1), .val (.int p2), .val (.int p3), .val (.int tt), .val (.int ln), .val (.int dd), .val (.int nn), .val (.ref ba), .val (.int m0), .val (.int m1), .val (.int m2), .val (.int m3), .val (.int m4), .val (.int m5), .val (.int m6), .val (.ref fa), .val (.ref am1028), .val .null, .val .null] [(.int (1 : Int32))])) _
                              refine own_retNW Xj1083 hx Bd.notSynchronized (t := .boolean) (z := (1 : Int32)) Bd.returns (by simp) rfl hSj1083 hkj1083 hZj1083 hEL (hh ▸ CRj1083) (hb hby at_478) ej1083 (Nat.le_of_ble_eq_true rfl) (Nat.le_of_ble_eq_true rfl) ?_
                              exact ⟨rfl, Nj1083⟩
                          · refine own_back (fun t k => XS.icmpYes Xj1083.here hx rfl (pc0 := 431) (pc' := 466) rfl (hb hby at_431) rfl (Jvm.Free.XT.ii_ne_t hc431_1089) (by decide) (by decide) k) ?_
                            show OwnGo p e below (Tj1083.setTop (mkF m 466 #[.val (.int p1), .val (.int p2), .val (.int p3), .val (.int tt), .val (.int ln), .val (.int dd), .val (.int nn), .val (.ref ba), .val (.int m0), .val (.int m1), .val (.int m2), .val (.int m3), .val (.int m4), .val (.int m5), .val (.int m6), .val (.ref fa), .val (.ref am1028), .val .null, .val .null] [])) _
                            refine own_back (fun t k => XS.aload Xj1083.here hx rfl (hb hby at_466) rfl rfl k) ?_
                            show OwnGo p e below (Tj1083.setTop (mkF m 468 #[.val (.int p1), .val (.int p2), .val (.int p3), .val (.int tt), .val (.int ln), .val (.int dd), .val (.int nn), .val (.ref ba), .val (.int m0), .val (.int m1), .val (.int m2), .val (.int m3), .val (.int m4), .val (.int m5), .val (.int m6), .val (.ref fa), .val (.ref am1028), .val .null, .val .null] [.null])) _
                            refine own_back (fun t k => XS.aload Xj1083.here hx rfl (hb hby at_468) rfl rfl k) ?_
                            show OwnGo p e below (Tj1083.setTop (mkF m 470 #[.val (.int p1), .val (.int p2), .val (.int p3), .val (.int tt), .val (.int ln), .val (.int dd), .val (.int nn), .val (.ref ba), .val (.int m0), .val (.int m1), .val (.int m2), .val (.int m3), .val (.int m4), .val (.int m5), .val (.int m6), .val (.ref fa), .val (.ref am1028), .val .null, .val .null] [.null, .null])) _
                            refine own_back (fun t k => Jvm.RoadKit.acmp (g := (mkF m 470 #[.val (.int p1), .val (.int p2), .val (.int p3), .val (.int tt), .val (.int ln), .val (.int dd), .val (.int nn), .val (.ref ba), .val (.int m0), .val (.int m1), .val (.int m2), .val (.int m3), .val (.int m4), .val (.int m5), .val (.int m6), .val (.ref fa), .val (.ref am1028), .val .null, .val .null] [.null, .null])) Xj1083 hx rfl rfl rfl (pc0 := 470) (pc' := 473) (same := true) rfl (hb hby at_470) rfl (decide_eq_true rfl) (by decide) (by decide) k) ?_
                            show OwnGo p e below (Tj1083.setTop (mkF m 473 #[.val (.int p1), .val (.int p2), .val (.int p3), .val (.int tt), .val (.int ln), .val (.int dd), .val (.int nn), .val (.ref ba), .val (.int m0), .val (.int m1), .val (.int m2), .val (.int m3), .val (.int m4), .val (.int m5), .val (.int m6), .val (.ref fa), .val (.ref am1028), .val .null, .val .null] [])) _
                            refine own_back (fun t k => XS.iconst Xj1083.here hx rfl (hb hby at_473) k) ?_
                            show OwnGo p e below (Tj1083.setTop (mkF m 474 #[.val (.int p1), .val (.int p2), .val (.int p3), .val (.int tt), .val (.int ln), .val (.int dd), .val (.int nn), .val (.ref ba), .val (.int m0), .val (.int m1), .val (.int m2), .val (.int m3), .val (.int m4), .val (.int m5), .val (.int m6), .val (.ref fa), .val (.ref am1028), .val .null, .val .null] [(.int (1 : Int32))])) _
                            refine own_back (fun t k => XS.goto Xj1083.here hx rfl (pc0 := 474) (pc' := 478) rfl (hb hby at_474) (by decide) (by decide) k) ?_
                            show OwnGo p e below (Tj1083.setTop (mkF m 478 #[.val (.int p1), .val (.int p2), .val (.int p3), .val (.int tt), .val (.int ln), .val (.int dd), .val (.int nn), .val (.ref ba), .val (.int m0), .val (.int m1), .val (.int m2), .val (.int m3), .val (.int m4), .val (.int m5), .val (.int m6), .val (.ref fa), .val (.ref am1028), .val .null, .val .null] [(.int (1 : Int32))])) _
                            refine own_retNW Xj1083 hx Bd.notSynchronized (t := .boolean) (z := (1 : Int32)) Bd.returns (by simp) rfl hSj1083 hkj1083 hZj1083 hEL (hh ▸ CRj1083) (hb hby at_478) ej1083 (Nat.le_of_ble_eq_true rfl) (Nat.le_of_ble_eq_true rfl) ?_
                            exact ⟨rfl, Nj1083⟩
                        · refine own_back (fun t k => XS.icmpYes Xj1083.here hx rfl (pc0 := 422) (pc' := 466) rfl (hb hby at_422) rfl (Jvm.Free.XT.ii_ne_t hc422_1086) (by decide) (by decide) k) ?_
                          show OwnGo p e below (Tj1083.setTop (mkF m 466 #[.val (.int p1), .val (.int p2), .val (.int p3), .val (.int tt), .val (.int ln), .val (.int dd), .val (.int nn), .val (.ref ba), .val (.int m0), .val (.int m1), .val (.int m2), .val (.int m3), .val (.int m4), .val (.int m5), .val (.int m6), .val (.ref fa), .val (.ref am1028), .val .null, .val .null] [])) _
                          refine own_back (fun t k => XS.aload Xj1083.here hx rfl (hb hby at_466) rfl rfl k) ?_
                          show OwnGo p e below (Tj1083.setTop (mkF m 468 #[.val (.int p1), .val (.int p2), .val (.int p3), .val (.int tt), .val (.int ln), .val (.int dd), .val (.int nn), .val (.ref ba), .val (.int m0), .val (.int m1), .val (.int m2), .val (.int m3), .val (.int m4), .val (.int m5), .val (.int m6), .val (.ref fa), .val (.ref am1028), .val .null, .val .null] [.null])) _
                          refine own_back (fun t k => XS.aload Xj1083.here hx rfl (hb hby at_468) rfl rfl k) ?_
                          show OwnGo p e below (Tj1083.setTop (mkF m 470 #[.val (.int p1), .val (.int p2), .val (.int p3), .val (.int tt), .val (.int ln), .val (.int dd), .val (.int nn), .val (.ref ba), .val (.int m0), .val (.int m1), .val (.int m2), .val (.int m3), .val (.int m4), .val (.int m5), .val (.int m6), .val (.ref fa), .val (.ref am1028), .val .null, .val .null] [.null, .null])) _
                          refine own_back (fun t k => Jvm.RoadKit.acmp (g := (mkF m 470 #[.val (.int p1), .val (.int p2), .val (.int p3), .val (.int tt), .val (.int ln), .val (.int dd), .val (.int nn), .val (.ref ba), .val (.int m0), .val (.int m1), .val (.int m2), .val (.int m3), .val (.int m4), .val (.int m5), .val (.int m6), .val (.ref fa), .val (.ref am1028), .val .null, .val .null] [.null, .null])) Xj1083 hx rfl rfl rfl (pc0 := 470) (pc' := 473) (same := true) rfl (hb hby at_470) rfl (decide_eq_true rfl) (by decide) (by decide) k) ?_
                          show OwnGo p e below (Tj1083.setTop (mkF m 473 #[.val (.int p1), .val (.int p2), .val (.int p3), .val (.int tt), .val (.int ln), .val (.int dd), .val (.int nn), .val (.ref ba), .val (.int m0), .val (.int m1), .val (.int m2), .val (.int m3), .val (.int m4), .val (.int m5), .val (.int m6), .val (.ref fa), .val (.ref am1028), .val .null, .val .null] [])) _
                          refine own_back (fun t k => XS.iconst Xj1083.here hx rfl (hb hby at_473) k) ?_
                          show OwnGo p e below (Tj1083.setTop (mkF m 474 #[.val (.int p1), .val (.int p2), .val (.int p3), .val (.int tt), .val (.int ln), .val (.int dd), .val (.int nn), .val (.ref ba), .val (.int m0), .val (.int m1), .val (.int m2), .val (.int m3), .val (.int m4), .val (.int m5), .val (.int m6), .val (.ref fa), .val (.ref am1028), .val .null, .val .null] [(.int (1 : Int32))])) _
                          refine own_back (fun t k => XS.goto Xj1083.here hx rfl (pc0 := 474) (pc' := 478) rfl (hb hby at_474) (by decide) (by decide) k) ?_
                          show OwnGo p e below (Tj1083.setTop (mkF m 478 #[.val (.int p1), .val (.int p2), .val (.int p3), .val (.int tt), .val (.int ln), .val (.int dd), .val (.int nn), .val (.ref ba), .val (.int m0), .val (.int m1), .val (.int m2), .val (.int m3), .val (.int m4), .val (.int m5), .val (.int m6), .val (.ref fa), .val (.ref am1028), .val .null, .val .null] [(.int (1 : Int32))])) _
                          refine own_retNW Xj1083 hx Bd.notSynchronized (t := .boolean) (z := (1 : Int32)) Bd.returns (by simp) rfl hSj1083 hkj1083 hZj1083 hEL (hh ▸ CRj1083) (hb hby at_478) ej1083 (Nat.le_of_ble_eq_true rfl) (Nat.le_of_ble_eq_true rfl) ?_
                          exact ⟨rfl, Nj1083⟩
                      refine own_back (fun t k => XS.aload X1074.here hx rfl (hb hby at_363) rfl rfl k) ?_
                      show OwnGo p e below (T1074.setTop (mkF m 365 #[.val (.int p1), .val (.int p2), .val (.int p3), .val (.int tt), .val (.int ln), .val (.int dd), .val (.int nn), .val (.ref ba), .val (.int m0), .val (.int m1), .val (.int m2), .val (.int m3), .val (.int m4), .val (.int m5), .val (.int m6), .val (.ref fa), .val (.ref am1028), .val .null, .val .null] [(.ref fa)])) _
                      refine own_back (fun t k => XS.iconst X1074.here hx rfl (hb hby at_365) k) ?_
                      show OwnGo p e below (T1074.setTop (mkF m 366 #[.val (.int p1), .val (.int p2), .val (.int p3), .val (.int tt), .val (.int ln), .val (.int dd), .val (.int nn), .val (.ref ba), .val (.int m0), .val (.int m1), .val (.int m2), .val (.int m3), .val (.int m4), .val (.int m5), .val (.int m6), .val (.ref fa), .val (.ref am1028), .val .null, .val .null] [(.int (0 : Int32)), (.ref fa)])) _
                      obtain ⟨c1099, A1099, q1099, S1099, M1099, H1099, U1099⟩ := id f1080
                      have ib1100 : ¬ ((0 : Int32) < 0 ∨ c1099.slots.size ≤ ((0 : Int32)).toNatClampNeg) := (inb_of S1099 ⟨by decide, by decide⟩)
                      refine own_back (fun t k => X1074.caload hx (j := (0 : Int32)) (v := (.int f0)) (own_hat rfl A1099.1) (State.isArrayOf_alike hZr1028.alike A1099.2.1) A1099.2.2 ib1100 (H1099.at ib1100 rfl) (g := (mkF m 366 #[.val (.int p1), .val (.int p2), .val (.int p3), .val (.int tt), .val (.int ln), .val (.int dd), .val (.int nn), .val (.ref ba), .val (.int m0), .val (.int m1), .val (.int m2), .val (.int m3), .val (.int m4), .val (.int m5), .val (.int m6), .val (.ref fa), .val (.ref am1028), .val .null, .val .null] [(.int (0 : Int32)), (.ref fa)])) rfl rfl (hb hby at_366) t k) ?_
                      show OwnGo p e below (T1074.setTop (mkF m 367 #[.val (.int p1), .val (.int p2), .val (.int p3), .val (.int tt), .val (.int ln), .val (.int dd), .val (.int nn), .val (.ref ba), .val (.int m0), .val (.int m1), .val (.int m2), .val (.int m3), .val (.int m4), .val (.int m5), .val (.int m6), .val (.ref fa), .val (.ref am1028), .val .null, .val .null] [(.int f0)])) _
                      refine own_back (fun t k => XS.bipush X1074.here hx rfl (hb hby at_367) k) ?_
                      show OwnGo p e below (T1074.setTop (mkF m 369 #[.val (.int p1), .val (.int p2), .val (.int p3), .val (.int tt), .val (.int ln), .val (.int dd), .val (.int nn), .val (.ref ba), .val (.int m0), .val (.int m1), .val (.int m2), .val (.int m3), .val (.int m4), .val (.int m5), .val (.int m6), .val (.ref fa), .val (.ref am1028), .val .null, .val .null] [(.int (112 : Int32)), (.int f0)])) _
                      by_cases hc369_1101 : f0 = (112 : Int32)
                      · refine own_back (fun t k => XS.icmpNo X1074.here hx rfl (hb hby at_369) rfl (Jvm.Free.XT.ii_ne_f hc369_1101) k) ?_
                        show OwnGo p e below (T1074.setTop (mkF m 372 #[.val (.int p1), .val (.int p2), .val (.int p3), .val (.int tt), .val (.int ln), .val (.int dd), .val (.int nn), .val (.ref ba), .val (.int m0), .val (.int m1), .val (.int m2), .val (.int m3), .val (.int m4), .val (.int m5), .val (.int m6), .val (.ref fa), .val (.ref am1028), .val .null, .val .null] [])) _
                        refine own_back (fun t k => XS.aload X1074.here hx rfl (hb hby at_372) rfl rfl k) ?_
                        show OwnGo p e below (T1074.setTop (mkF m 374 #[.val (.int p1), .val (.int p2), .val (.int p3), .val (.int tt), .val (.int ln), .val (.int dd), .val (.int nn), .val (.ref ba), .val (.int m0), .val (.int m1), .val (.int m2), .val (.int m3), .val (.int m4), .val (.int m5), .val (.int m6), .val (.ref fa), .val (.ref am1028), .val .null, .val .null] [(.ref fa)])) _
                        refine own_back (fun t k => XS.iconst X1074.here hx rfl (hb hby at_374) k) ?_
                        show OwnGo p e below (T1074.setTop (mkF m 375 #[.val (.int p1), .val (.int p2), .val (.int p3), .val (.int tt), .val (.int ln), .val (.int dd), .val (.int nn), .val (.ref ba), .val (.int m0), .val (.int m1), .val (.int m2), .val (.int m3), .val (.int m4), .val (.int m5), .val (.int m6), .val (.ref fa), .val (.ref am1028), .val .null, .val .null] [(.int (1 : Int32)), (.ref fa)])) _
                        obtain ⟨c1102, A1102, q1102, S1102, M1102, H1102, U1102⟩ := id f1080
                        have ib1103 : ¬ ((1 : Int32) < 0 ∨ c1102.slots.size ≤ ((1 : Int32)).toNatClampNeg) := (inb_of S1102 ⟨by decide, by decide⟩)
                        refine own_back (fun t k => X1074.caload hx (j := (1 : Int32)) (v := (.int f1)) (own_hat rfl A1102.1) (State.isArrayOf_alike hZr1028.alike A1102.2.1) A1102.2.2 ib1103 (H1102.at ib1103 rfl) (g := (mkF m 375 #[.val (.int p1), .val (.int p2), .val (.int p3), .val (.int tt), .val (.int ln), .val (.int dd), .val (.int nn), .val (.ref ba), .val (.int m0), .val (.int m1), .val (.int m2), .val (.int m3), .val (.int m4), .val (.int m5), .val (.int m6), .val (.ref fa), .val (.ref am1028), .val .null, .val .null] [(.int (1 : Int32)), (.ref fa)])) rfl rfl (hb hby at_375) t k) ?_
                        show OwnGo p e below (T1074.setTop (mkF m 376 #[.val (.int p1), .val (.int p2), .val (.int p3), .val (.int tt), .val (.int ln), .val (.int dd), .val (.int nn), .val (.ref ba), .val (.int m0), .val (.int m1), .val (.int m2), .val (.int m3), .val (.int m4), .val (.int m5), .val (.int m6), .val (.ref fa), .val (.ref am1028), .val .null, .val .null] [(.int f1)])) _
                        refine own_back (fun t k => XS.bipush X1074.here hx rfl (hb hby at_376) k) ?_
                        show OwnGo p e below (T1074.setTop (mkF m 378 #[.val (.int p1), .val (.int p2), .val (.int p3), .val (.int tt), .val (.int ln), .val (.int dd), .val (.int nn), .val (.ref ba), .val (.int m0), .val (.int m1), .val (.int m2), .val (.int m3), .val (.int m4), .val (.int m5), .val (.int m6), .val (.ref fa), .val (.ref am1028), .val .null, .val .null] [(.int (114 : Int32)), (.int f1)])) _
                        by_cases hc378_1104 : f1 = (114 : Int32)
                        · refine own_back (fun t k => XS.icmpNo X1074.here hx rfl (hb hby at_378) rfl (Jvm.Free.XT.ii_ne_f hc378_1104) k) ?_
                          show OwnGo p e below (T1074.setTop (mkF m 381 #[.val (.int p1), .val (.int p2), .val (.int p3), .val (.int tt), .val (.int ln), .val (.int dd), .val (.int nn), .val (.ref ba), .val (.int m0), .val (.int m1), .val (.int m2), .val (.int m3), .val (.int m4), .val (.int m5), .val (.int m6), .val (.ref fa), .val (.ref am1028), .val .null, .val .null] [])) _
                          refine own_back (fun t k => XS.aload X1074.here hx rfl (hb hby at_381) rfl rfl k) ?_
                          show OwnGo p e below (T1074.setTop (mkF m 383 #[.val (.int p1), .val (.int p2), .val (.int p3), .val (.int tt), .val (.int ln), .val (.int dd), .val (.int nn), .val (.ref ba), .val (.int m0), .val (.int m1), .val (.int m2), .val (.int m3), .val (.int m4), .val (.int m5), .val (.int m6), .val (.ref fa), .val (.ref am1028), .val .null, .val .null] [(.ref fa)])) _
                          refine own_back (fun t k => XS.iconst X1074.here hx rfl (hb hby at_383) k) ?_
                          show OwnGo p e below (T1074.setTop (mkF m 384 #[.val (.int p1), .val (.int p2), .val (.int p3), .val (.int tt), .val (.int ln), .val (.int dd), .val (.int nn), .val (.ref ba), .val (.int m0), .val (.int m1), .val (.int m2), .val (.int m3), .val (.int m4), .val (.int m5), .val (.int m6), .val (.ref fa), .val (.ref am1028), .val .null, .val .null] [(.int (2 : Int32)), (.ref fa)])) _
                          obtain ⟨c1105, A1105, q1105, S1105, M1105, H1105, U1105⟩ := id f1080
                          have ib1106 : ¬ ((2 : Int32) < 0 ∨ c1105.slots.size ≤ ((2 : Int32)).toNatClampNeg) := (inb_of S1105 ⟨by decide, by decide⟩)
                          refine own_back (fun t k => X1074.caload hx (j := (2 : Int32)) (v := (.int f2)) (own_hat rfl A1105.1) (State.isArrayOf_alike hZr1028.alike A1105.2.1) A1105.2.2 ib1106 (H1105.at ib1106 rfl) (g := (mkF m 384 #[.val (.int p1), .val (.int p2), .val (.int p3), .val (.int tt), .val (.int ln), .val (.int dd), .val (.int nn), .val (.ref ba), .val (.int m0), .val (.int m1), .val (.int m2), .val (.int m3), .val (.int m4), .val (.int m5), .val (.int m6), .val (.ref fa), .val (.ref am1028), .val .null, .val .null] [(.int (2 : Int32)), (.ref fa)])) rfl rfl (hb hby at_384) t k) ?_
                          show OwnGo p e below (T1074.setTop (mkF m 385 #[.val (.int p1), .val (.int p2), .val (.int p3), .val (.int tt), .val (.int ln), .val (.int dd), .val (.int nn), .val (.ref ba), .val (.int m0), .val (.int m1), .val (.int m2), .val (.int m3), .val (.int m4), .val (.int m5), .val (.int m6), .val (.ref fa), .val (.ref am1028), .val .null, .val .null] [(.int f2)])) _
                          refine own_back (fun t k => XS.bipush X1074.here hx rfl (hb hby at_385) k) ?_
                          show OwnGo p e below (T1074.setTop (mkF m 387 #[.val (.int p1), .val (.int p2), .val (.int p3), .val (.int tt), .val (.int ln), .val (.int dd), .val (.int nn), .val (.ref ba), .val (.int m0), .val (.int m1), .val (.int m2), .val (.int m3), .val (.int m4), .val (.int m5), .val (.int m6), .val (.ref fa), .val (.ref am1028), .val .null, .val .null] [(.int (105 : Int32)), (.int f2)])) _
                          by_cases hc387_1107 : f2 = (105 : Int32)
                          · refine own_back (fun t k => XS.icmpNo X1074.here hx rfl (hb hby at_387) rfl (Jvm.Free.XT.ii_ne_f hc387_1107) k) ?_
                            show OwnGo p e below (T1074.setTop (mkF m 390 #[.val (.int p1), .val (.int p2), .val (.int p3), .val (.int tt), .val (.int ln), .val (.int dd), .val (.int nn), .val (.ref ba), .val (.int m0), .val (.int m1), .val (.int m2), .val (.int m3), .val (.int m4), .val (.int m5), .val (.int m6), .val (.ref fa), .val (.ref am1028), .val .null, .val .null] [])) _
                            refine own_back (fun t k => XS.aload X1074.here hx rfl (hb hby at_390) rfl rfl k) ?_
                            show OwnGo p e below (T1074.setTop (mkF m 392 #[.val (.int p1), .val (.int p2), .val (.int p3), .val (.int tt), .val (.int ln), .val (.int dd), .val (.int nn), .val (.ref ba), .val (.int m0), .val (.int m1), .val (.int m2), .val (.int m3), .val (.int m4), .val (.int m5), .val (.int m6), .val (.ref fa), .val (.ref am1028), .val .null, .val .null] [(.ref fa)])) _
                            refine own_back (fun t k => XS.iconst X1074.here hx rfl (hb hby at_392) k) ?_
                            show OwnGo p e below (T1074.setTop (mkF m 393 #[.val (.int p1), .val (.int p2), .val (.int p3), .val (.int tt), .val (.int ln), .val (.int dd), .val (.int nn), .val (.ref ba), .val (.int m0), .val (.int m1), .val (.int m2), .val (.int m3), .val (.int m4), .val (.int m5), .val (.int m6), .val (.ref fa), .val (.ref am1028), .val .null, .val .null] [(.int (3 : Int32)), (.ref fa)])) _
                            obtain ⟨c1108, A1108, q1108, S1108, M1108, H1108, U1108⟩ := id f1080
                            have ib1109 : ¬ ((3 : Int32) < 0 ∨ c1108.slots.size ≤ ((3 : Int32)).toNatClampNeg) := (inb_of S1108 ⟨by decide, by decide⟩)
                            refine own_back (fun t k => X1074.caload hx (j := (3 : Int32)) (v := (.int f3)) (own_hat rfl A1108.1) (State.isArrayOf_alike hZr1028.alike A1108.2.1) A1108.2.2 ib1109 (H1108.at ib1109 rfl) (g := (mkF m 393 #[.val (.int p1), .val (.int p2), .val (.int p3), .val (.int tt), .val (.int ln), .val (.int dd), .val (.int nn), .val (.ref ba), .val (.int m0), .val (.int m1), .val (.int m2), .val (.int m3), .val (.int m4), .val (.int m5), .val (.int m6), .val (.ref fa), .val (.ref am1028), .val .null, .val .null] [(.int (3 : Int32)), (.ref fa)])) rfl rfl (hb hby at_393) t k) ?_
                            show OwnGo p e below (T1074.setTop (mkF m 394 #[.val (.int p1), .val (.int p2), .val (.int p3), .val (.int tt), .val (.int ln), .val (.int dd), .val (.int nn), .val (.ref ba), .val (.int m0), .val (.int m1), .val (.int m2), .val (.int m3), .val (.int m4), .val (.int m5), .val (.int m6), .val (.ref fa), .val (.ref am1028), .val .null, .val .null] [(.int f3)])) _
                            refine own_back (fun t k => XS.bipush X1074.here hx rfl (hb hby at_394) k) ?_
                            show OwnGo p e below (T1074.setTop (mkF m 396 #[.val (.int p1), .val (.int p2), .val (.int p3), .val (.int tt), .val (.int ln), .val (.int dd), .val (.int nn), .val (.ref ba), .val (.int m0), .val (.int m1), .val (.int m2), .val (.int m3), .val (.int m4), .val (.int m5), .val (.int m6), .val (.ref fa), .val (.ref am1028), .val .null, .val .null] [(.int (99 : Int32)), (.int f3)])) _
                            by_cases hc396_1110 : f3 = (99 : Int32)
                            · refine own_back (fun t k => XS.icmpNo X1074.here hx rfl (hb hby at_396) rfl (Jvm.Free.XT.ii_ne_f hc396_1110) k) ?_
                              show OwnGo p e below (T1074.setTop (mkF m 399 #[.val (.int p1), .val (.int p2), .val (.int p3), .val (.int tt), .val (.int ln), .val (.int dd), .val (.int nn), .val (.ref ba), .val (.int m0), .val (.int m1), .val (.int m2), .val (.int m3), .val (.int m4), .val (.int m5), .val (.int m6), .val (.ref fa), .val (.ref am1028), .val .null, .val .null] [])) _
                              refine own_back (fun t k => XS.aload X1074.here hx rfl (hb hby at_399) rfl rfl k) ?_
                              show OwnGo p e below (T1074.setTop (mkF m 401 #[.val (.int p1), .val (.int p2), .val (.int p3), .val (.int tt), .val (.int ln), .val (.int dd), .val (.int nn), .val (.ref ba), .val (.int m0), .val (.int m1), .val (.int m2), .val (.int m3), .val (.int m4), .val (.int m5), .val (.int m6), .val (.ref fa), .val (.ref am1028), .val .null, .val .null] [(.ref fa)])) _
                              refine own_back (fun t k => XS.iconst X1074.here hx rfl (hb hby at_401) k) ?_
                              show OwnGo p e below (T1074.setTop (mkF m 402 #[.val (.int p1), .val (.int p2), .val (.int p3), .val (.int tt), .val (.int ln), .val (.int dd), .val (.int nn), .val (.ref ba), .val (.int m0), .val (.int m1), .val (.int m2), .val (.int m3), .val (.int m4), .val (.int m5), .val (.int m6), .val (.ref fa), .val (.ref am1028), .val .null, .val .null] [(.int (4 : Int32)), (.ref fa)])) _
                              obtain ⟨c1111, A1111, q1111, S1111, M1111, H1111, U1111⟩ := id f1080
                              have ib1112 : ¬ ((4 : Int32) < 0 ∨ c1111.slots.size ≤ ((4 : Int32)).toNatClampNeg) := (inb_of S1111 ⟨by decide, by decide⟩)
                              refine own_back (fun t k => X1074.caload hx (j := (4 : Int32)) (v := (.int f4)) (own_hat rfl A1111.1) (State.isArrayOf_alike hZr1028.alike A1111.2.1) A1111.2.2 ib1112 (H1111.at ib1112 rfl) (g := (mkF m 402 #[.val (.int p1), .val (.int p2), .val (.int p3), .val (.int tt), .val (.int ln), .val (.int dd), .val (.int nn), .val (.ref ba), .val (.int m0), .val (.int m1), .val (.int m2), .val (.int m3), .val (.int m4), .val (.int m5), .val (.int m6), .val (.ref fa), .val (.ref am1028), .val .null, .val .null] [(.int (4 : Int32)), (.ref fa)])) rfl rfl (hb hby at_402) t k) ?_
                              show OwnGo p e below (T1074.setTop (mkF m 403 #[.val (.int p1), .val (.int p2), .val (.int p3), .val (.int tt), .val (.int ln), .val (.int dd), .val (.int nn), .val (.ref ba), .val (.int m0), .val (.int m1), .val (.int m2), .val (.int m3), .val (.int m4), .val (.int m5), .val (.int m6), .val (.ref fa), .val (.ref am1028), .val .null, .val .null] [(.int f4)])) _
                              refine own_back (fun t k => XS.bipush X1074.here hx rfl (hb hby at_403) k) ?_
                              show OwnGo p e below (T1074.setTop (mkF m 405 #[.val (.int p1), .val (.int p2), .val (.int p3), .val (.int tt), .val (.int ln), .val (.int dd), .val (.int nn), .val (.ref ba), .val (.int m0), .val (.int m1), .val (.int m2), .val (.int m3), .val (.int m4), .val (.int m5), .val (.int m6), .val (.ref fa), .val (.ref am1028), .val .null, .val .null] [(.int (101 : Int32)), (.int f4)])) _
                              by_cases hc405_1113 : f4 = (101 : Int32)
                              · refine own_back (fun t k => XS.icmpNo X1074.here hx rfl (hb hby at_405) rfl (Jvm.Free.XT.ii_ne_f hc405_1113) k) ?_
                                show OwnGo p e below (T1074.setTop (mkF m 408 #[.val (.int p1), .val (.int p2), .val (.int p3), .val (.int tt), .val (.int ln), .val (.int dd), .val (.int nn), .val (.ref ba), .val (.int m0), .val (.int m1), .val (.int m2), .val (.int m3), .val (.int m4), .val (.int m5), .val (.int m6), .val (.ref fa), .val (.ref am1028), .val .null, .val .null] [])) _
                                exact absurd (own_to5 hc360_1082 (by rw [hc369_1101]; decide) (by rw [hc378_1104]; decide) (by rw [hc387_1107]; decide) (by rw [hc396_1110]; decide) (by rw [hc405_1113]; decide)) hP
                              · refine own_back (fun t k => XS.icmpYes X1074.here hx rfl (pc0 := 405) (pc' := 416) rfl (hb hby at_405) rfl (Jvm.Free.XT.ii_ne_t hc405_1113) (by decide) (by decide) k) ?_
                                show OwnGo p e below (T1074.setTop (mkF m 416 #[.val (.int p1), .val (.int p2), .val (.int p3), .val (.int tt), .val (.int ln), .val (.int dd), .val (.int nn), .val (.ref ba), .val (.int m0), .val (.int m1), .val (.int m2), .val (.int m3), .val (.int m4), .val (.int m5), .val (.int m6), .val (.ref fa), .val (.ref am1028), .val .null, .val .null] [])) _
                                exact tl416_1083 _ _  ⟨_, _, _, X1074, rfl, hSr1028, hk1079, hZr1028, hownr1028, CR1078, O1075, KP1076, Zs1077, N1074⟩ f1081 f1080
                            · refine own_back (fun t k => XS.icmpYes X1074.here hx rfl (pc0 := 396) (pc' := 416) rfl (hb hby at_396) rfl (Jvm.Free.XT.ii_ne_t hc396_1110) (by decide) (by decide) k) ?_
                              show OwnGo p e below (T1074.setTop (mkF m 416 #[.val (.int p1), .val (.int p2), .val (.int p3), .val (.int tt), .val (.int ln), .val (.int dd), .val (.int nn), .val (.ref ba), .val (.int m0), .val (.int m1), .val (.int m2), .val (.int m3), .val (.int m4), .val (.int m5), .val (.int m6), .val (.ref fa), .val (.ref am1028), .val .null, .val .null] [])) _
                              exact tl416_1083 _ _  ⟨_, _, _, X1074, rfl, hSr1028, hk1079, hZr1028, hownr1028, CR1078, O1075, KP1076, Zs1077, N1074⟩ f1081 f1080
                          · refine own_back (fun t k => XS.icmpYes X1074.here hx rfl (pc0 := 387) (pc' := 416) rfl (hb hby at_387) rfl (Jvm.Free.XT.ii_ne_t hc387_1107) (by decide) (by decide) k) ?_
                            show OwnGo p e below (T1074.setTop (mkF m 416 #[.val (.int p1), .val (.int p2), .val (.int p3), .val (.int tt), .val (.int ln), .val (.int dd), .val (.int nn), .val (.ref ba), .val (.int m0), .val (.int m1), .val (.int m2), .val (.int m3), .val (.int m4), .val (.int m5), .val (.int m6), .val (.ref fa), .val (.ref am1028), .val .null, .val .null] [])) _
                            exact tl416_1083 _ _  ⟨_, _, _, X1074, rfl, hSr1028, hk1079, hZr1028, hownr1028, CR1078, O1075, KP1076, Zs1077, N1074⟩ f1081 f1080
                        · refine own_back (fun t k => XS.icmpYes X1074.here hx rfl (pc0 := 378) (pc' := 416) rfl (hb hby at_378) rfl (Jvm.Free.XT.ii_ne_t hc378_1104) (by decide) (by decide) k) ?_
                          show OwnGo p e below (T1074.setTop (mkF m 416 #[.val (.int p1), .val (.int p2), .val (.int p3), .val (.int tt), .val (.int ln), .val (.int dd), .val (.int nn), .val (.ref ba), .val (.int m0), .val (.int m1), .val (.int m2), .val (.int m3), .val (.int m4), .val (.int m5), .val (.int m6), .val (.ref fa), .val (.ref am1028), .val .null, .val .null] [])) _
                          exact tl416_1083 _ _  ⟨_, _, _, X1074, rfl, hSr1028, hk1079, hZr1028, hownr1028, CR1078, O1075, KP1076, Zs1077, N1074⟩ f1081 f1080
                      · refine own_back (fun t k => XS.icmpYes X1074.here hx rfl (pc0 := 369) (pc' := 416) rfl (hb hby at_369) rfl (Jvm.Free.XT.ii_ne_t hc369_1101) (by decide) (by decide) k) ?_
                        show OwnGo p e below (T1074.setTop (mkF m 416 #[.val (.int p1), .val (.int p2), .val (.int p3), .val (.int tt), .val (.int ln), .val (.int dd), .val (.int nn), .val (.ref ba), .val (.int m0), .val (.int m1), .val (.int m2), .val (.int m3), .val (.int m4), .val (.int m5), .val (.int m6), .val (.ref fa), .val (.ref am1028), .val .null, .val .null] [])) _
                        exact tl416_1083 _ _  ⟨_, _, _, X1074, rfl, hSr1028, hk1079, hZr1028, hownr1028, CR1078, O1075, KP1076, Zs1077, N1074⟩ f1081 f1080
                    · refine own_back (fun t k => XS.icmpYes X1074.here hx rfl (pc0 := 360) (pc' := 466) rfl (hb hby at_360) rfl (Jvm.Free.XT.ii_ne_t hc360_1082) (by decide) (by decide) k) ?_
                      show OwnGo p e below (T1074.setTop (mkF m 466 #[.val (.int p1), .val (.int p2), .val (.int p3), .val (.int tt), .val (.int ln), .val (.int dd), .val (.int nn), .val (.ref ba), .val (.int m0), .val (.int m1), .val (.int m2), .val (.int m3), .val (.int m4), .val (.int m5), .val (.int m6), .val (.ref fa), .val (.ref am1028), .val .null, .val .null] [])) _
                      refine own_back (fun t k => XS.aload X1074.here hx rfl (hb hby at_466) rfl rfl k) ?_
                      show OwnGo p e below (T1074.setTop (mkF m 468 #[.val (.int p1), .val (.int p2), .val (.int p3), .val (.int tt), .val (.int ln), .val (.int dd), .val (.int nn), .val (.ref ba), .val (.int m0), .val (.int m1), .val (.int m2), .val (.int m3), .val (.int m4), .val (.int m5), .val (.int m6), .val (.ref fa), .val (.ref am1028), .val .null, .val .null] [.null])) _
                      refine own_back (fun t k => XS.aload X1074.here hx rfl (hb hby at_468) rfl rfl k) ?_
                      show OwnGo p e below (T1074.setTop (mkF m 470 #[.val (.int p1), .val (.int p2), .val (.int p3), .val (.int tt), .val (.int ln), .val (.int dd), .val (.int nn), .val (.ref ba), .val (.int m0), .val (.int m1), .val (.int m2), .val (.int m3), .val (.int m4), .val (.int m5), .val (.int m6), .val (.ref fa), .val (.ref am1028), .val .null, .val .null] [.null, .null])) _
                      refine own_back (fun t k => Jvm.RoadKit.acmp (g := (mkF m 470 #[.val (.int p1), .val (.int p2), .val (.int p3), .val (.int tt), .val (.int ln), .val (.int dd), .val (.int nn), .val (.ref ba), .val (.int m0), .val (.int m1), .val (.int m2), .val (.int m3), .val (.int m4), .val (.int m5), .val (.int m6), .val (.ref fa), .val (.ref am1028), .val .null, .val .null] [.null, .null])) X1074 hx rfl rfl rfl (pc0 := 470) (pc' := 473) (same := true) rfl (hb hby at_470) rfl (decide_eq_true rfl) (by decide) (by decide) k) ?_
                      show OwnGo p e below (T1074.setTop (mkF m 473 #[.val (.int p1), .val (.int p2), .val (.int p3), .val (.int tt), .val (.int ln), .val (.int dd), .val (.int nn), .val (.ref ba), .val (.int m0), .val (.int m1), .val (.int m2), .val (.int m3), .val (.int m4), .val (.int m5), .val (.int m6), .val (.ref fa), .val (.ref am1028), .val .null, .val .null] [])) _
                      refine own_back (fun t k => XS.iconst X1074.here hx rfl (hb hby at_473) k) ?_
                      show OwnGo p e below (T1074.setTop (mkF m 474 #[.val (.int p1), .val (.int p2), .val (.int p3), .val (.int tt), .val (.int ln), .val (.int dd), .val (.int nn), .val (.ref ba), .val (.int m0), .val (.int m1), .val (.int m2), .val (.int m3), .val (.int m4), .val (.int m5), .val (.int m6), .val (.ref fa), .val (.ref am1028), .val .null, .val .null] [(.int (1 : Int32))])) _
                      refine own_back (fun t k => XS.goto X1074.here hx rfl (pc0 := 474) (pc' := 478) rfl (hb hby at_474) (by decide) (by decide) k) ?_
                      show OwnGo p e below (T1074.setTop (mkF m 478 #[.val (.int p1), .val (.int p2), .val (.int p3), .val (.int tt), .val (.int ln), .val (.int dd), .val (.int nn), .val (.ref ba), .val (.int m0), .val (.int m1), .val (.int m2), .val (.int m3), .val (.int m4), .val (.int m5), .val (.int m6), .val (.ref fa), .val (.ref am1028), .val .null, .val .null] [(.int (1 : Int32))])) _
                      refine own_retNW X1074 hx Bd.notSynchronized (t := .boolean) (z := (1 : Int32)) Bd.returns (by simp) rfl hSr1028 hk1079 hZr1028 hEL (hh ▸ CR1078) (hb hby at_478) rfl (Nat.le_of_ble_eq_true rfl) (Nat.le_of_ble_eq_true rfl) ?_
                      exact ⟨rfl, N1074⟩
              · refine own_back (fun t k => XS.ifNo Xj1026.here hx rfl (hb hby at_326) rfl (Jvm.Free.XT.i0_eq_f hc326_1027) k) ?_
                show OwnGo p e below (Tj1026.setTop (mkF m 329 #[.val (.int p1), .val (.int p2), .val (.int p3), .val (.int tt), .val (.int ln), .val (.int dd), .val (.int nn), .val (.ref ba), .val (.int m0), .val (.int m1), .val (.int m2), .val (.int m3), .val (.int m4), .val (.int m5), .val (.int m6), .val (.ref fa), .unset, .unset, .unset] [])) _
                refine own_back (fun t k => XS.aconstNull Xj1026.here hx rfl (hb hby at_329) k) ?_
                show OwnGo p e below (Tj1026.setTop (mkF m 330 #[.val (.int p1), .val (.int p2), .val (.int p3), .val (.int tt), .val (.int ln), .val (.int dd), .val (.int nn), .val (.ref ba), .val (.int m0), .val (.int m1), .val (.int m2), .val (.int m3), .val (.int m4), .val (.int m5), .val (.int m6), .val (.ref fa), .unset, .unset, .unset] [.null])) _
                refine own_back (fun t k => XS.goto Xj1026.here hx rfl (pc0 := 330) (pc' := 340) rfl (hb hby at_330) (by decide) (by decide) k) ?_
                show OwnGo p e below (Tj1026.setTop (mkF m 340 #[.val (.int p1), .val (.int p2), .val (.int p3), .val (.int tt), .val (.int ln), .val (.int dd), .val (.int nn), .val (.ref ba), .val (.int m0), .val (.int m1), .val (.int m2), .val (.int m3), .val (.int m4), .val (.int m5), .val (.int m6), .val (.ref fa), .unset, .unset, .unset] [.null])) _
                refine own_back (fun t k => XS.astore Xj1026.here hx rfl (hb hby at_340) rfl rfl (l' := #[.val (.int p1), .val (.int p2), .val (.int p3), .val (.int tt), .val (.int ln), .val (.int dd), .val (.int nn), .val (.ref ba), .val (.int m0), .val (.int m1), .val (.int m2), .val (.int m3), .val (.int m4), .val (.int m5), .val (.int m6), .val (.ref fa), .val .null, .unset, .unset]) rfl k) ?_
                show OwnGo p e below (Tj1026.setTop (mkF m 342 #[.val (.int p1), .val (.int p2), .val (.int p3), .val (.int tt), .val (.int ln), .val (.int dd), .val (.int nn), .val (.ref ba), .val (.int m0), .val (.int m1), .val (.int m2), .val (.int m3), .val (.int m4), .val (.int m5), .val (.int m6), .val (.ref fa), .val .null, .unset, .unset] [])) _
                refine own_back (fun t k => XS.aload Xj1026.here hx rfl (hb hby at_342) rfl rfl k) ?_
                show OwnGo p e below (Tj1026.setTop (mkF m 344 #[.val (.int p1), .val (.int p2), .val (.int p3), .val (.int tt), .val (.int ln), .val (.int dd), .val (.int nn), .val (.ref ba), .val (.int m0), .val (.int m1), .val (.int m2), .val (.int m3), .val (.int m4), .val (.int m5), .val (.int m6), .val (.ref fa), .val .null, .unset, .unset] [.null])) _
                obtain ⟨_, _, ⟨T1114, L1114, k1114, n1114⟩, -, X1114, ⟨Lc1114, hQ1114, l1114, y1114, z1114⟩, st1114⟩ := Jvm.LawKit.callS Xj1026 hx (y := (⟨"com/example/indexwright/indexwright/bond/BondVariant", "of", "(Ljava/lang/String;)Lcom/example/indexwright/indexwright/bond/BondVariant;"⟩ : MethodName)) hownj1026 (mvT hZj1026 (hw _ (List.mem_of_getElem? (i := 26) rfl))) (mvT hZj1026 (hw _ (List.mem_of_getElem? (i := 27) rfl))) (mvT hZj1026 (hw _ (List.mem_of_getElem? (i := 28) rfl))) (mvT hZj1026 (hw _ (List.mem_of_getElem? (i := 29) rfl))) (by decide) (own_backN (W := 0) (rm_ofn l Z a0 hw [] wP wT wV kV kP kT cz hj1026 n0 Zj1026 Oj1026 SV AV EV FV FP FT BP BT SC hcz) hZj1026 (hw _ (List.mem_of_getElem? (i := 29) rfl)) (hw _ (List.mem_of_getElem? (i := 28) rfl)) (by decide) (by decide)) (g := (mkF m 344 #[.val (.int p1), .val (.int p2), .val (.int p3), .val (.int tt), .val (.int ln), .val (.int dd), .val (.int nn), .val (.ref ba), .val (.int m0), .val (.int m1), .val (.int m2), .val (.int m3), .val (.int m4), .val (.int m5), .val (.int m6), .val (.ref fa), .val .null, .unset, .unset] [.null])) rfl (by rw [hml]; rfl) (argsL := [.null]) (rest := []) (lenOf lw_pd1 rfl) rfl (by show 2 * 0 + _ ≤ _; exact Nat.le_of_eq rfl) (hb hby at_344) (fun _ _ => ⟨rfl, ej1026, Nat.le_of_ble_eq_true rfl, Nat.le_of_ble_eq_true rfl⟩)
                dsimp only [Pt.U, Pt.locs, Pt.cells, Pt.slots] at X1114 l1114 y1114 z1114 st1114 hQ1114
                subst l1114 y1114 z1114
                obtain ⟨rfl, N1114q, E1114⟩ := hQ1114
                refine own_back st1114 ?_
                have N1114 := Fr.app Nj1026 N1114q
                have O1115 := Oj1026.ext E1114
                have KP1116 := KPj1026.ext E1114
                have Zs1117 := Nat.le_trans Zj1026 E1114.1
                have CR1118 := CRj1026.trans (CHr.ext E1114 CRj1026.1)
                have hk1119 := Nat.le_trans hkj1026 E1114.1
                have f1120 := hs1026_0.ext E1114
                show OwnGo p e below (T1114.setTop (mkF m 347 #[.val (.int p1), .val (.int p2), .val (.int p3), .val (.int tt), .val (.int ln), .val (.int dd), .val (.int nn), .val (.ref ba), .val (.int m0), .val (.int m1), .val (.int m2), .val (.int m3), .val (.int m4), .val (.int m5), .val (.int m6), .val (.ref fa), .val .null, .unset, .unset] [.null])) _
                refine own_back (fun t k => XS.astore X1114.here hx rfl (hb hby at_347) rfl rfl (l' := #[.val (.int p1), .val (.int p2), .val (.int p3), .val (.int tt), .val (.int ln), .val (.int dd), .val (.int nn), .val (.ref ba), .val (.int m0), .val (.int m1), .val (.int m2), .val (.int m3), .val (.int m4), .val (.int m5), .val (.int m6), .val (.ref fa), .val .null, .val .null, .unset]) rfl k) ?_
                show OwnGo p e below (T1114.setTop (mkF m 349 #[.val (.int p1), .val (.int p2), .val (.int p3), .val (.int tt), .val (.int ln), .val (.int dd), .val (.int nn), .val (.ref ba), .val (.int m0), .val (.int m1), .val (.int m2), .val (.int m3), .val (.int m4), .val (.int m5), .val (.int m6), .val (.ref fa), .val .null, .val .null, .unset] [])) _
                refine own_back (fun t k => XS.aconstNull X1114.here hx rfl (hb hby at_349) k) ?_
                show OwnGo p e below (T1114.setTop (mkF m 350 #[.val (.int p1), .val (.int p2), .val (.int p3), .val (.int tt), .val (.int ln), .val (.int dd), .val (.int nn), .val (.ref ba), .val (.int m0), .val (.int m1), .val (.int m2), .val (.int m3), .val (.int m4), .val (.int m5), .val (.int m6), .val (.ref fa), .val .null, .val .null, .unset] [.null])) _
                refine own_back (fun t k => XS.astore X1114.here hx rfl (hb hby at_350) rfl rfl (l' := #[.val (.int p1), .val (.int p2), .val (.int p3), .val (.int tt), .val (.int ln), .val (.int dd), .val (.int nn), .val (.ref ba), .val (.int m0), .val (.int m1), .val (.int m2), .val (.int m3), .val (.int m4), .val (.int m5), .val (.int m6), .val (.ref fa), .val .null, .val .null, .val .null]) rfl k) ?_
                show OwnGo p e below (T1114.setTop (mkF m 352 #[.val (.int p1), .val (.int p2), .val (.int p3), .val (.int tt), .val (.int ln), .val (.int dd), .val (.int nn), .val (.ref ba), .val (.int m0), .val (.int m1), .val (.int m2), .val (.int m3), .val (.int m4), .val (.int m5), .val (.int m6), .val (.ref fa), .val .null, .val .null, .val .null] [])) _
                refine own_back (fun t k => XS.iload X1114.here hx rfl (hb hby at_352) rfl k) ?_
                show OwnGo p e below (T1114.setTop (mkF m 354 #[.val (.int p1), .val (.int p2), .val (.int p3), .val (.int tt), .val (.int ln), .val (.int dd), .val (.int nn), .val (.ref ba), .val (.int m0), .val (.int m1), .val (.int m2), .val (.int m3), .val (.int m4), .val (.int m5), .val (.int m6), .val (.ref fa), .val .null, .val .null, .val .null] [(.int nn)])) _
                refine own_back (fun t k => XS.ifYes X1114.here hx rfl (pc0 := 354) (pc' := 466) rfl (hb hby at_354) rfl (Jvm.Free.XT.i0_ne_t hc326_1027) (by decide) (by decide) k) ?_
                show OwnGo p e below (T1114.setTop (mkF m 466 #[.val (.int p1), .val (.int p2), .val (.int p3), .val (.int tt), .val (.int ln), .val (.int dd), .val (.int nn), .val (.ref ba), .val (.int m0), .val (.int m1), .val (.int m2), .val (.int m3), .val (.int m4), .val (.int m5), .val (.int m6), .val (.ref fa), .val .null, .val .null, .val .null] [])) _
                refine own_back (fun t k => XS.aload X1114.here hx rfl (hb hby at_466) rfl rfl k) ?_
                show OwnGo p e below (T1114.setTop (mkF m 468 #[.val (.int p1), .val (.int p2), .val (.int p3), .val (.int tt), .val (.int ln), .val (.int dd), .val (.int nn), .val (.ref ba), .val (.int m0), .val (.int m1), .val (.int m2), .val (.int m3), .val (.int m4), .val (.int m5), .val (.int m6), .val (.ref fa), .val .null, .val .null, .val .null] [.null])) _
                refine own_back (fun t k => XS.aload X1114.here hx rfl (hb hby at_468) rfl rfl k) ?_
                show OwnGo p e below (T1114.setTop (mkF m 470 #[.val (.int p1), .val (.int p2), .val (.int p3), .val (.int tt), .val (.int ln), .val (.int dd), .val (.int nn), .val (.ref ba), .val (.int m0), .val (.int m1), .val (.int m2), .val (.int m3), .val (.int m4), .val (.int m5), .val (.int m6), .val (.ref fa), .val .null, .val .null, .val .null] [.null, .null])) _
                refine own_back (fun t k => Jvm.RoadKit.acmp (g := (mkF m 470 #[.val (.int p1), .val (.int p2), .val (.int p3), .val (.int tt), .val (.int ln), .val (.int dd), .val (.int nn), .val (.ref ba), .val (.int m0), .val (.int m1), .val (.int m2), .val (.int m3), .val (.int m4), .val (.int m5), .val (.int m6), .val (.ref fa), .val .null, .val .null, .val .null] [.null, .null])) X1114 hx rfl rfl rfl (pc0 := 470) (pc' := 473) (same := true) rfl (hb hby at_470) rfl (decide_eq_true rfl) (by decide) (by decide) k) ?_
                show OwnGo p e below (T1114.setTop (mkF m 473 #[.val (.int p1), .val (.int p2), .val (.int p3), .val (.int tt), .val (.int ln), .val (.int dd), .val (.int nn), .val (.ref ba), .val (.int m0), .val (.int m1), .val (.int m2), .val (.int m3), .val (.int m4), .val (.int m5), .val (.int m6), .val (.ref fa), .val .null, .val .null, .val .null] [])) _
                refine own_back (fun t k => XS.iconst X1114.here hx rfl (hb hby at_473) k) ?_
                show OwnGo p e below (T1114.setTop (mkF m 474 #[.val (.int p1), .val (.int p2), .val (.int p3), .val (.int tt), .val (.int ln), .val (.int dd), .val (.int nn), .val (.ref ba), .val (.int m0), .val (.int m1), .val (.int m2), .val (.int m3), .val (.int m4), .val (.int m5), .val (.int m6), .val (.ref fa), .val .null, .val .null, .val .null] [(.int (1 : Int32))])) _
                refine own_back (fun t k => XS.goto X1114.here hx rfl (pc0 := 474) (pc' := 478) rfl (hb hby at_474) (by decide) (by decide) k) ?_
                show OwnGo p e below (T1114.setTop (mkF m 478 #[.val (.int p1), .val (.int p2), .val (.int p3), .val (.int tt), .val (.int ln), .val (.int dd), .val (.int nn), .val (.ref ba), .val (.int m0), .val (.int m1), .val (.int m2), .val (.int m3), .val (.int m4), .val (.int m5), .val (.int m6), .val (.ref fa), .val .null, .val .null, .val .null] [(.int (1 : Int32))])) _
                refine own_retNW X1114 hx Bd.notSynchronized (t := .boolean) (z := (1 : Int32)) Bd.returns (by simp) rfl hSj1026 hk1119 hZj1026 hEL (hh ▸ CR1118) (hb hby at_478) rfl (Nat.le_of_ble_eq_true rfl) (Nat.le_of_ble_eq_true rfl) ?_
                exact ⟨rfl, N1114⟩
            refine own_back (fun t k => XS.astore X1015.here hx rfl (hb hby at_236) rfl rfl (l' := #[.val (.int p1), .val (.int p2), .val (.int p3), .val (.int tt), .val (.int ln), .val (.int dd), .val (.int nn), .val (.ref ba), .val (.int m0), .val (.int m1), .val (.int m2), .val (.int m3), .val (.int m4), .val (.int m5), .val (.int m6), .val (.ref b1015), .unset, .unset, .unset]) rfl k) ?_
            show OwnGo p e below (T1015.setTop (mkF m 238 #[.val (.int p1), .val (.int p2), .val (.int p3), .val (.int tt), .val (.int ln), .val (.int dd), .val (.int nn), .val (.ref ba), .val (.int m0), .val (.int m1), .val (.int m2), .val (.int m3), .val (.int m4), .val (.int m5), .val (.int m6), .val (.ref b1015), .unset, .unset, .unset] [])) _
            refine own_back (fun t k => XS.aload X1015.here hx rfl (hb hby at_238) rfl rfl k) ?_
            show OwnGo p e below (T1015.setTop (mkF m 240 #[.val (.int p1), .val (.int p2), .val (.int p3), .val (.int tt), .val (.int ln), .val (.int dd), .val (.int nn), .val (.ref ba), .val (.int m0), .val (.int m1), .val (.int m2), .val (.int m3), .val (.int m4), .val (.int m5), .val (.int m6), .val (.ref b1015), .unset, .unset, .unset] [(.ref b1015)])) _
            refine own_back (fun t k => XS.iconst X1015.here hx rfl (hb hby at_240) k) ?_
            show OwnGo p e below (T1015.setTop (mkF m 241 #[.val (.int p1), .val (.int p2), .val (.int p3), .val (.int tt), .val (.int ln), .val (.int dd), .val (.int nn), .val (.ref ba), .val (.int m0), .val (.int m1), .val (.int m2), .val (.int m3), .val (.int m4), .val (.int m5), .val (.int m6), .val (.ref b1015), .unset, .unset, .unset] [(.int (0 : Int32)), (.ref b1015)])) _
            refine own_back (fun t k => XS.aload X1015.here hx rfl (hb hby at_241) rfl rfl k) ?_
            show OwnGo p e below (T1015.setTop (mkF m 243 #[.val (.int p1), .val (.int p2), .val (.int p3), .val (.int tt), .val (.int ln), .val (.int dd), .val (.int nn), .val (.ref ba), .val (.int m0), .val (.int m1), .val (.int m2), .val (.int m3), .val (.int m4), .val (.int m5), .val (.int m6), .val (.ref b1015), .unset, .unset, .unset] [(.ref ba), (.int (0 : Int32)), (.ref b1015)])) _
            refine own_back (fun t k => XS.iconst X1015.here hx rfl (hb hby at_243) k) ?_
            show OwnGo p e below (T1015.setTop (mkF m 244 #[.val (.int p1), .val (.int p2), .val (.int p3), .val (.int tt), .val (.int ln), .val (.int dd), .val (.int nn), .val (.ref ba), .val (.int m0), .val (.int m1), .val (.int m2), .val (.int m3), .val (.int m4), .val (.int m5), .val (.int m6), .val (.ref b1015), .unset, .unset, .unset] [(.int (0 : Int32)), (.ref ba), (.int (0 : Int32)), (.ref b1015)])) _
            obtain ⟨c1121, A1121, q1121, S1121, M1121, H1121, U1121⟩ := id f1023
            have ib1122 : ¬ ((0 : Int32) < 0 ∨ c1121.slots.size ≤ ((0 : Int32)).toNatClampNeg) := (inb_of S1121 ⟨by decide, by decide⟩)
            refine own_back (fun t k => X1015.caload hx (j := (0 : Int32)) (v := (.int c0)) (own_hat e1015 A1121.1) (State.isArrayOf_alike hZj1014.alike A1121.2.1) A1121.2.2 ib1122 (H1121.at ib1122 rfl) (g := (mkF m 244 #[.val (.int p1), .val (.int p2), .val (.int p3), .val (.int tt), .val (.int ln), .val (.int dd), .val (.int nn), .val (.ref ba), .val (.int m0), .val (.int m1), .val (.int m2), .val (.int m3), .val (.int m4), .val (.int m5), .val (.int m6), .val (.ref b1015), .unset, .unset, .unset] [(.int (0 : Int32)), (.ref ba), (.int (0 : Int32)), (.ref b1015)])) rfl rfl (hb hby at_244) t k) ?_
            show OwnGo p e below (T1015.setTop (mkF m 245 #[.val (.int p1), .val (.int p2), .val (.int p3), .val (.int tt), .val (.int ln), .val (.int dd), .val (.int nn), .val (.ref ba), .val (.int m0), .val (.int m1), .val (.int m2), .val (.int m3), .val (.int m4), .val (.int m5), .val (.int m6), .val (.ref b1015), .unset, .unset, .unset] [(.int c0), (.int (0 : Int32)), (.ref b1015)])) _
            refine own_back (fun t k => XS.iload X1015.here hx rfl (hb hby at_245) rfl k) ?_
            show OwnGo p e below (T1015.setTop (mkF m 247 #[.val (.int p1), .val (.int p2), .val (.int p3), .val (.int tt), .val (.int ln), .val (.int dd), .val (.int nn), .val (.ref ba), .val (.int m0), .val (.int m1), .val (.int m2), .val (.int m3), .val (.int m4), .val (.int m5), .val (.int m6), .val (.ref b1015), .unset, .unset, .unset] [(.int m0), (.int c0), (.int (0 : Int32)), (.ref b1015)])) _
            refine own_back (fun t k => XS.ixor X1015.here hx rfl (hb hby at_247) rfl k) ?_
            show OwnGo p e below (T1015.setTop (mkF m 248 #[.val (.int p1), .val (.int p2), .val (.int p3), .val (.int tt), .val (.int ln), .val (.int dd), .val (.int nn), .val (.ref ba), .val (.int m0), .val (.int m1), .val (.int m2), .val (.int m3), .val (.int m4), .val (.int m5), .val (.int m6), .val (.ref b1015), .unset, .unset, .unset] [(.int (c0 ^^^ m0)), (.int (0 : Int32)), (.ref b1015)])) _
            refine own_back (fun t k => XS.i2c X1015.here hx rfl (hb hby at_248) rfl k) ?_
            show OwnGo p e below (T1015.setTop (mkF m 249 #[.val (.int p1), .val (.int p2), .val (.int p3), .val (.int tt), .val (.int ln), .val (.int dd), .val (.int nn), .val (.ref ba), .val (.int m0), .val (.int m1), .val (.int m2), .val (.int m3), .val (.int m4), .val (.int m5), .val (.int m6), .val (.ref b1015), .unset, .unset, .unset] [(.int (c0 ^^^ m0).toUInt32.toUInt16.toUInt32.toInt32), (.int (0 : Int32)), (.ref b1015)])) _
            obtain ⟨c1123, A1123, q1123, S1123, M1123, H1123, U1123⟩ := id V1024
            obtain ⟨T1124, h1124, X1124, e1124, W1124, st1124⟩ := stC X1015 hx hZj1014 e1015 A1123 (j := (0 : Int32)) (inb_of S1123 ⟨by decide, by decide⟩) (g := (mkF m 249 #[.val (.int p1), .val (.int p2), .val (.int p3), .val (.int tt), .val (.int ln), .val (.int dd), .val (.int nn), .val (.ref ba), .val (.int m0), .val (.int m1), .val (.int m2), .val (.int m3), .val (.int m4), .val (.int m5), .val (.int m6), .val (.ref b1015), .unset, .unset, .unset] [(.int (c0 ^^^ m0).toUInt32.toUInt16.toUInt32.toInt32), (.int (0 : Int32)), (.ref b1015)])) rfl rfl (hb hby at_249)
            have O1125 := O1018.wr W1124 ge1016
            have KP1126 := KP1019.wr W1124 (Or.inr sz1017)
            have Zs1127 := Nat.le_trans Zs1020 (Keep.of_wr W1124).1
            have CR1128 := CR1021.trans (CHr.wr W1124 sf1025 CR1021.1)
            have hk1129 := Nat.le_trans hk1022 (Keep.of_wr W1124).1
            have f1130 := f1023.other W1124 (Nat.ne_of_lt (Nat.lt_of_lt_of_le hs1014_0.lt (Nat.le_of_eq g1015.symm)))
            have f1131 := (Safe.wr W1124 sf1025 CR1021.1 sf1025)
            have V1132 : Arv Z h1124 b1015 k1015 .char (7 : Int32) [(.int (nar .char (c0 ^^^ m0).toUInt32.toUInt16.toUInt32.toInt32)), (.int (0 : Int32)), (.int (0 : Int32)), (.int (0 : Int32)), (.int (0 : Int32)), (.int (0 : Int32)), (.int (0 : Int32))] (.int (0 : Int32)) := Arv.set A1123 q1123 S1123 M1123 H1123 U1123 (fits_nar_char _) W1124 0 rfl (Nat.le_of_ble_eq_true rfl)
            have N1133 := Fr.snoc X1124 Nj1014 ge1016
            refine own_back st1124 ?_
            show OwnGo p e below (T1124.setTop (mkF m 250 #[.val (.int p1), .val (.int p2), .val (.int p3), .val (.int tt), .val (.int ln), .val (.int dd), .val (.int nn), .val (.ref ba), .val (.int m0), .val (.int m1), .val (.int m2), .val (.int m3), .val (.int m4), .val (.int m5), .val (.int m6), .val (.ref b1015), .unset, .unset, .unset] [])) _
            refine own_back (fun t k => XS.aload X1124.here hx rfl (hb hby at_250) rfl rfl k) ?_
            show OwnGo p e below (T1124.setTop (mkF m 252 #[.val (.int p1), .val (.int p2), .val (.int p3), .val (.int tt), .val (.int ln), .val (.int dd), .val (.int nn), .val (.ref ba), .val (.int m0), .val (.int m1), .val (.int m2), .val (.int m3), .val (.int m4), .val (.int m5), .val (.int m6), .val (.ref b1015), .unset, .unset, .unset] [(.ref b1015)])) _
            refine own_back (fun t k => XS.iconst X1124.here hx rfl (hb hby at_252) k) ?_
            show OwnGo p e below (T1124.setTop (mkF m 253 #[.val (.int p1), .val (.int p2), .val (.int p3), .val (.int tt), .val (.int ln), .val (.int dd), .val (.int nn), .val (.ref ba), .val (.int m0), .val (.int m1), .val (.int m2), .val (.int m3), .val (.int m4), .val (.int m5), .val (.int m6), .val (.ref b1015), .unset, .unset, .unset] [(.int (1 : Int32)), (.ref b1015)])) _
            refine own_back (fun t k => XS.aload X1124.here hx rfl (hb hby at_253) rfl rfl k) ?_
            show OwnGo p e below (T1124.setTop (mkF m 255 #[.val (.int p1), .val (.int p2), .val (.int p3), .val (.int tt), .val (.int ln), .val (.int dd), .val (.int nn), .val (.ref ba), .val (.int m0), .val (.int m1), .val (.int m2), .val (.int m3), .val (.int m4), .val (.int m5), .val (.int m6), .val (.ref b1015), .unset, .unset, .unset] [(.ref ba), (.int (1 : Int32)), (.ref b1015)])) _
            refine own_back (fun t k => XS.iconst X1124.here hx rfl (hb hby at_255) k) ?_
            show OwnGo p e below (T1124.setTop (mkF m 256 #[.val (.int p1), .val (.int p2), .val (.int p3), .val (.int tt), .val (.int ln), .val (.int dd), .val (.int nn), .val (.ref ba), .val (.int m0), .val (.int m1), .val (.int m2), .val (.int m3), .val (.int m4), .val (.int m5), .val (.int m6), .val (.ref b1015), .unset, .unset, .unset] [(.int (1 : Int32)), (.ref ba), (.int (1 : Int32)), (.ref b1015)])) _
            obtain ⟨c1134, A1134, q1134, S1134, M1134, H1134, U1134⟩ := id f1130
            have ib1135 : ¬ ((1 : Int32) < 0 ∨ c1134.slots.size ≤ ((1 : Int32)).toNatClampNeg) := (inb_of S1134 ⟨by decide, by decide⟩)
            refine own_back (fun t k => X1124.caload hx (j := (1 : Int32)) (v := (.int c1)) (own_hat e1124 A1134.1) (State.isArrayOf_alike hZj1014.alike A1134.2.1) A1134.2.2 ib1135 (H1134.at ib1135 rfl) (g := (mkF m 256 #[.val (.int p1), .val (.int p2), .val (.int p3), .val (.int tt), .val (.int ln), .val (.int dd), .val (.int nn), .val (.ref ba), .val (.int m0), .val (.int m1), .val (.int m2), .val (.int m3), .val (.int m4), .val (.int m5), .val (.int m6), .val (.ref b1015), .unset, .unset, .unset] [(.int (1 : Int32)), (.ref ba), (.int (1 : Int32)), (.ref b1015)])) rfl rfl (hb hby at_256) t k) ?_
            show OwnGo p e below (T1124.setTop (mkF m 257 #[.val (.int p1), .val (.int p2), .val (.int p3), .val (.int tt), .val (.int ln), .val (.int dd), .val (.int nn), .val (.ref ba), .val (.int m0), .val (.int m1), .val (.int m2), .val (.int m3), .val (.int m4), .val (.int m5), .val (.int m6), .val (.ref b1015), .unset, .unset, .unset] [(.int c1), (.int (1 : Int32)), (.ref b1015)])) _
            refine own_back (fun t k => XS.iload X1124.here hx rfl (hb hby at_257) rfl k) ?_
            show OwnGo p e below (T1124.setTop (mkF m 259 #[.val (.int p1), .val (.int p2), .val (.int p3), .val (.int tt), .val (.int ln), .val (.int dd), .val (.int nn), .val (.ref ba), .val (.int m0), .val (.int m1), .val (.int m2), .val (.int m3), .val (.int m4), .val (.int m5), .val (.int m6), .val (.ref b1015), .unset, .unset, .unset] [(.int m1), (.int c1), (.int (1 : Int32)), (.ref b1015)])) _
            refine own_back (fun t k => XS.ixor X1124.here hx rfl (hb hby at_259) rfl k) ?_
            show OwnGo p e below (T1124.setTop (mkF m 260 #[.val (.int p1), .val (.int p2), .val (.int p3), .val (.int tt), .val (.int ln), .val (.int dd), .val (.int nn), .val (.ref ba), .val (.int m0), .val (.int m1), .val (.int m2), .val (.int m3), .val (.int m4), .val (.int m5), .val (.int m6), .val (.ref b1015), .unset, .unset, .unset] [(.int (c1 ^^^ m1)), (.int (1 : Int32)), (.ref b1015)])) _
            refine own_back (fun t k => XS.i2c X1124.here hx rfl (hb hby at_260) rfl k) ?_
            show OwnGo p e below (T1124.setTop (mkF m 261 #[.val (.int p1), .val (.int p2), .val (.int p3), .val (.int tt), .val (.int ln), .val (.int dd), .val (.int nn), .val (.ref ba), .val (.int m0), .val (.int m1), .val (.int m2), .val (.int m3), .val (.int m4), .val (.int m5), .val (.int m6), .val (.ref b1015), .unset, .unset, .unset] [(.int (c1 ^^^ m1).toUInt32.toUInt16.toUInt32.toInt32), (.int (1 : Int32)), (.ref b1015)])) _
            obtain ⟨c1136, A1136, q1136, S1136, M1136, H1136, U1136⟩ := id V1132
            obtain ⟨T1137, h1137, X1137, e1137, W1137, st1137⟩ := stC X1124 hx hZj1014 e1124 A1136 (j := (1 : Int32)) (inb_of S1136 ⟨by decide, by decide⟩) (g := (mkF m 261 #[.val (.int p1), .val (.int p2), .val (.int p3), .val (.int tt), .val (.int ln), .val (.int dd), .val (.int nn), .val (.ref ba), .val (.int m0), .val (.int m1), .val (.int m2), .val (.int m3), .val (.int m4), .val (.int m5), .val (.int m6), .val (.ref b1015), .unset, .unset, .unset] [(.int (c1 ^^^ m1).toUInt32.toUInt16.toUInt32.toInt32), (.int (1 : Int32)), (.ref b1015)])) rfl rfl (hb hby at_261)
            have O1138 := O1125.wr W1137 ge1016
            have KP1139 := KP1126.wr W1137 (Or.inr sz1017)
            have Zs1140 := Nat.le_trans Zs1127 (Keep.of_wr W1137).1
            have CR1141 := CR1128.trans (CHr.wr W1137 f1131 CR1128.1)
            have hk1142 := Nat.le_trans hk1129 (Keep.of_wr W1137).1
            have f1143 := f1130.other W1137 (Nat.ne_of_lt (Nat.lt_of_lt_of_le hs1014_0.lt (Nat.le_of_eq g1015.symm)))
            have f1144 := (Safe.wr W1137 f1131 CR1128.1 f1131)
            have V1145 : Arv Z h1137 b1015 k1015 .char (7 : Int32) [(.int (nar .char (c0 ^^^ m0).toUInt32.toUInt16.toUInt32.toInt32)), (.int (nar .char (c1 ^^^ m1).toUInt32.toUInt16.toUInt32.toInt32)), (.int (0 : Int32)), (.int (0 : Int32)), (.int (0 : Int32)), (.int (0 : Int32)), (.int (0 : Int32))] (.int (0 : Int32)) := Arv.set A1136 q1136 S1136 M1136 H1136 U1136 (fits_nar_char _) W1137 1 rfl (Nat.le_of_ble_eq_true rfl)
            have N1146 := Fr.snoc X1137 N1133 ge1016
            refine own_back st1137 ?_
            show OwnGo p e below (T1137.setTop (mkF m 262 #[.val (.int p1), .val (.int p2), .val (.int p3), .val (.int tt), .val (.int ln), .val (.int dd), .val (.int nn), .val (.ref ba), .val (.int m0), .val (.int m1), .val (.int m2), .val (.int m3), .val (.int m4), .val (.int m5), .val (.int m6), .val (.ref b1015), .unset, .unset, .unset] [])) _
            refine own_back (fun t k => XS.aload X1137.here hx rfl (hb hby at_262) rfl rfl k) ?_
            show OwnGo p e below (T1137.setTop (mkF m 264 #[.val (.int p1), .val (.int p2), .val (.int p3), .val (.int tt), .val (.int ln), .val (.int dd), .val (.int nn), .val (.ref ba), .val (.int m0), .val (.int m1), .val (.int m2), .val (.int m3), .val (.int m4), .val (.int m5), .val (.int m6), .val (.ref b1015), .unset, .unset, .unset] [(.ref b1015)])) _
            refine own_back (fun t k => XS.iconst X1137.here hx rfl (hb hby at_264) k) ?_
            show OwnGo p e below (T1137.setTop (mkF m 265 #[.val (.int p1), .val (.int p2), .val (.int p3), .val (.int tt), .val (.int ln), .val (.int dd), .val (.int nn), .val (.ref ba), .val (.int m0), .val (.int m1), .val (.int m2), .val (.int m3), .val (.int m4), .val (.int m5), .val (.int m6), .val (.ref b1015), .unset, .unset, .unset] [(.int (2 : Int32)), (.ref b1015)])) _
            refine own_back (fun t k => XS.aload X1137.here hx rfl (hb hby at_265) rfl rfl k) ?_
            show OwnGo p e below (T1137.setTop (mkF m 267 #[.val (.int p1), .val (.int p2), .val (.int p3), .val (.int tt), .val (.int ln), .val (.int dd), .val (.int nn), .val (.ref ba), .val (.int m0), .val (.int m1), .val (.int m2), .val (.int m3), .val (.int m4), .val (.int m5), .val (.int m6), .val (.ref b1015), .unset, .unset, .unset] [(.ref ba), (.int (2 : Int32)), (.ref b1015)])) _
            refine own_back (fun t k => XS.iconst X1137.here hx rfl (hb hby at_267) k) ?_
            show OwnGo p e below (T1137.setTop (mkF m 268 #[.val (.int p1), .val (.int p2), .val (.int p3), .val (.int tt), .val (.int ln), .val (.int dd), .val (.int nn), .val (.ref ba), .val (.int m0), .val (.int m1), .val (.int m2), .val (.int m3), .val (.int m4), .val (.int m5), .val (.int m6), .val (.ref b1015), .unset, .unset, .unset] [(.int (2 : Int32)), (.ref ba), (.int (2 : Int32)), (.ref b1015)])) _
            obtain ⟨c1147, A1147, q1147, S1147, M1147, H1147, U1147⟩ := id f1143
            have ib1148 : ¬ ((2 : Int32) < 0 ∨ c1147.slots.size ≤ ((2 : Int32)).toNatClampNeg) := (inb_of S1147 ⟨by decide, by decide⟩)
            refine own_back (fun t k => X1137.caload hx (j := (2 : Int32)) (v := (.int c2)) (own_hat e1137 A1147.1) (State.isArrayOf_alike hZj1014.alike A1147.2.1) A1147.2.2 ib1148 (H1147.at ib1148 rfl) (g := (mkF m 268 #[.val (.int p1), .val (.int p2), .val (.int p3), .val (.int tt), .val (.int ln), .val (.int dd), .val (.int nn), .val (.ref ba), .val (.int m0), .val (.int m1), .val (.int m2), .val (.int m3), .val (.int m4), .val (.int m5), .val (.int m6), .val (.ref b1015), .unset, .unset, .unset] [(.int (2 : Int32)), (.ref ba), (.int (2 : Int32)), (.ref b1015)])) rfl rfl (hb hby at_268) t k) ?_
            show OwnGo p e below (T1137.setTop (mkF m 269 #[.val (.int p1), .val (.int p2), .val (.int p3), .val (.int tt), .val (.int ln), .val (.int dd), .val (.int nn), .val (.ref ba), .val (.int m0), .val (.int m1), .val (.int m2), .val (.int m3), .val (.int m4), .val (.int m5), .val (.int m6), .val (.ref b1015), .unset, .unset, .unset] [(.int c2), (.int (2 : Int32)), (.ref b1015)])) _
            refine own_back (fun t k => XS.iload X1137.here hx rfl (hb hby at_269) rfl k) ?_
            show OwnGo p e below (T1137.setTop (mkF m 271 #[.val (.int p1), .val (.int p2), .val (.int p3), .val (.int tt), .val (.int ln), .val (.int dd), .val (.int nn), .val (.ref ba), .val (.int m0), .val (.int m1), .val (.int m2), .val (.int m3), .val (.int m4), .val (.int m5), .val (.int m6), .val (.ref b1015), .unset, .unset, .unset] [(.int m2), (.int c2), (.int (2 : Int32)), (.ref b1015)])) _
            refine own_back (fun t k => XS.ixor X1137.here hx rfl (hb hby at_271) rfl k) ?_
            show OwnGo p e below (T1137.setTop (mkF m 272 #[.val (.int p1), .val (.int p2), .val (.int p3), .val (.int tt), .val (.int ln), .val (.int dd), .val (.int nn), .val (.ref ba), .val (.int m0), .val (.int m1), .val (.int m2), .val (.int m3), .val (.int m4), .val (.int m5), .val (.int m6), .val (.ref b1015), .unset, .unset, .unset] [(.int (c2 ^^^ m2)), (.int (2 : Int32)), (.ref b1015)])) _
            refine own_back (fun t k => XS.i2c X1137.here hx rfl (hb hby at_272) rfl k) ?_
            show OwnGo p e below (T1137.setTop (mkF m 273 #[.val (.int p1), .val (.int p2), .val (.int p3), .val (.int tt), .val (.int ln), .val (.int dd), .val (.int nn), .val (.ref ba), .val (.int m0), .val (.int m1), .val (.int m2), .val (.int m3), .val (.int m4), .val (.int m5), .val (.int m6), .val (.ref b1015), .unset, .unset, .unset] [(.int (c2 ^^^ m2).toUInt32.toUInt16.toUInt32.toInt32), (.int (2 : Int32)), (.ref b1015)])) _
            obtain ⟨c1149, A1149, q1149, S1149, M1149, H1149, U1149⟩ := id V1145
            obtain ⟨T1150, h1150, X1150, e1150, W1150, st1150⟩ := stC X1137 hx hZj1014 e1137 A1149 (j := (2 : Int32)) (inb_of S1149 ⟨by decide, by decide⟩) (g := (mkF m 273 #[.val (.int p1), .val (.int p2), .val (.int p3), .val (.int tt), .val (.int ln), .val (.int dd), .val (.int nn), .val (.ref ba), .val (.int m0), .val (.int m1), .val (.int m2), .val (.int m3), .val (.int m4), .val (.int m5), .val (.int m6), .val (.ref b1015), .unset, .unset, .unset] [(.int (c2 ^^^ m2).toUInt32.toUInt16.toUInt32.toInt32), (.int (2 : Int32)), (.ref b1015)])) rfl rfl (hb hby at_273)
            have O1151 := O1138.wr W1150 ge1016
            have KP1152 := KP1139.wr W1150 (Or.inr sz1017)
            have Zs1153 := Nat.le_trans Zs1140 (Keep.of_wr W1150).1
            have CR1154 := CR1141.trans (CHr.wr W1150 f1144 CR1141.1)
            have hk1155 := Nat.le_trans hk1142 (Keep.of_wr W1150).1
            have f1156 := f1143.other W1150 (Nat.ne_of_lt (Nat.lt_of_lt_of_le hs1014_0.lt (Nat.le_of_eq g1015.symm)))
            have f1157 := (Safe.wr W1150 f1144 CR1141.1 f1144)
            have V1158 : Arv Z h1150 b1015 k1015 .char (7 : Int32) [(.int (nar .char (c0 ^^^ m0).toUInt32.toUInt16.toUInt32.toInt32)), (.int (nar .char (c1 ^^^ m1).toUInt32.toUInt16.toUInt32.toInt32)), (.int (nar .char (c2 ^^^ m2).toUInt32.toUInt16.toUInt32.toInt32)), (.int (0 : Int32)), (.int (0 : Int32)), (.int (0 : Int32)), (.int (0 : Int32))] (.int (0 : Int32)) := Arv.set A1149 q1149 S1149 M1149 H1149 U1149 (fits_nar_char _) W1150 2 rfl (Nat.le_of_ble_eq_true rfl)
            have N1159 := Fr.snoc X1150 N1146 ge1016
            refine own_back st1150 ?_
            show OwnGo p e below (T1150.setTop (mkF m 274 #[.val (.int p1), .val (.int p2), .val (.int p3), .val (.int tt), .val (.int ln), .val (.int dd), .val (.int nn), .val (.ref ba), .val (.int m0), .val (.int m1), .val (.int m2), .val (.int m3), .val (.int m4), .val (.int m5), .val (.int m6), .val (.ref b1015), .unset, .unset, .unset] [])) _
            refine own_back (fun t k => XS.aload X1150.here hx rfl (hb hby at_274) rfl rfl k) ?_
            show OwnGo p e below (T1150.setTop (mkF m 276 #[.val (.int p1), .val (.int p2), .val (.int p3), .val (.int tt), .val (.int ln), .val (.int dd), .val (.int nn), .val (.ref ba), .val (.int m0), .val (.int m1), .val (.int m2), .val (.int m3), .val (.int m4), .val (.int m5), .val (.int m6), .val (.ref b1015), .unset, .unset, .unset] [(.ref b1015)])) _
            refine own_back (fun t k => XS.iconst X1150.here hx rfl (hb hby at_276) k) ?_
            show OwnGo p e below (T1150.setTop (mkF m 277 #[.val (.int p1), .val (.int p2), .val (.int p3), .val (.int tt), .val (.int ln), .val (.int dd), .val (.int nn), .val (.ref ba), .val (.int m0), .val (.int m1), .val (.int m2), .val (.int m3), .val (.int m4), .val (.int m5), .val (.int m6), .val (.ref b1015), .unset, .unset, .unset] [(.int (3 : Int32)), (.ref b1015)])) _
            refine own_back (fun t k => XS.aload X1150.here hx rfl (hb hby at_277) rfl rfl k) ?_
            show OwnGo p e below (T1150.setTop (mkF m 279 #[.val (.int p1), .val (.int p2), .val (.int p3), .val (.int tt), .val (.int ln), .val (.int dd), .val (.int nn), .val (.ref ba), .val (.int m0), .val (.int m1), .val (.int m2), .val (.int m3), .val (.int m4), .val (.int m5), .val (.int m6), .val (.ref b1015), .unset, .unset, .unset] [(.ref ba), (.int (3 : Int32)), (.ref b1015)])) _
            refine own_back (fun t k => XS.iconst X1150.here hx rfl (hb hby at_279) k) ?_
            show OwnGo p e below (T1150.setTop (mkF m 280 #[.val (.int p1), .val (.int p2), .val (.int p3), .val (.int tt), .val (.int ln), .val (.int dd), .val (.int nn), .val (.ref ba), .val (.int m0), .val (.int m1), .val (.int m2), .val (.int m3), .val (.int m4), .val (.int m5), .val (.int m6), .val (.ref b1015), .unset, .unset, .unset] [(.int (3 : Int32)), (.ref ba), (.int (3 : Int32)), (.ref b1015)])) _
            obtain ⟨c1160, A1160, q1160, S1160, M1160, H1160, U1160⟩ := id f1156
            have ib1161 : ¬ ((3 : Int32) < 0 ∨ c1160.slots.size ≤ ((3 : Int32)).toNatClampNeg) := (inb_of S1160 ⟨by decide, by decide⟩)
            refine own_back (fun t k => X1150.caload hx (j := (3 : Int32)) (v := (.int c3)) (own_hat e1150 A1160.1) (State.isArrayOf_alike hZj1014.alike A1160.2.1) A1160.2.2 ib1161 (H1160.at ib1161 rfl) (g := (mkF m 280 #[.val (.int p1), .val (.int p2), .val (.int p3), .val (.int tt), .val (.int ln), .val (.int dd), .val (.int nn), .val (.ref ba), .val (.int m0), .val (.int m1), .val (.int m2), .val (.int m3), .val (.int m4), .val (.int m5), .val (.int m6), .val (.ref b1015), .unset, .unset, .unset] [(.int (3 : Int32)), (.ref ba), (.int (3 : Int32)), (.ref b1015)])) rfl rfl (hb hby at_280) t k) ?_
            show OwnGo p e below (T1150.setTop (mkF m 281 #[.val (.int p1), .val (.int p2), .val (.int p3), .val (.int tt), .val (.int ln), .val (.int dd), .val (.int nn), .val (.ref ba), .val (.int m0), .val (.int m1), .val (.int m2), .val (.int m3), .val (.int m4), .val (.int m5), .val (.int m6), .val (.ref b1015), .unset, .unset, .unset] [(.int c3), (.int (3 : Int32)), (.ref b1015)])) _
            refine own_back (fun t k => XS.iload X1150.here hx rfl (hb hby at_281) rfl k) ?_
            show OwnGo p e below (T1150.setTop (mkF m 283 #[.val (.int p1), .val (.int p2), .val (.int p3), .val (.int tt), .val (.int ln), .val (.int dd), .val (.int nn), .val (.ref ba), .val (.int m0), .val (.int m1), .val (.int m2), .val (.int m3), .val (.int m4), .val (.int m5), .val (.int m6), .val (.ref b1015), .unset, .unset, .unset] [(.int m3), (.int c3), (.int (3 : Int32)), (.ref b1015)])) _
            refine own_back (fun t k => XS.ixor X1150.here hx rfl (hb hby at_283) rfl k) ?_
            show OwnGo p e below (T1150.setTop (mkF m 284 #[.val (.int p1), .val (.int p2), .val (.int p3), .val (.int tt), .val (.int ln), .val (.int dd), .val (.int nn), .val (.ref ba), .val (.int m0), .val (.int m1), .val (.int m2), .val (.int m3), .val (.int m4), .val (.int m5), .val (.int m6), .val (.ref b1015), .unset, .unset, .unset] [(.int (c3 ^^^ m3)), (.int (3 : Int32)), (.ref b1015)])) _
            refine own_back (fun t k => XS.i2c X1150.here hx rfl (hb hby at_284) rfl k) ?_
            show OwnGo p e below (T1150.setTop (mkF m 285 #[.val (.int p1), .val (.int p2), .val (.int p3), .val (.int tt), .val (.int ln), .val (.int dd), .val (.int nn), .val (.ref ba), .val (.int m0), .val (.int m1), .val (.int m2), .val (.int m3), .val (.int m4), .val (.int m5), .val (.int m6), .val (.ref b1015), .unset, .unset, .unset] [(.int (c3 ^^^ m3).toUInt32.toUInt16.toUInt32.toInt32), (.int (3 : Int32)), (.ref b1015)])) _
            obtain ⟨c1162, A1162, q1162, S1162, M1162, H1162, U1162⟩ := id V1158
            obtain ⟨T1163, h1163, X1163, e1163, W1163, st1163⟩ := stC X1150 hx hZj1014 e1150 A1162 (j := (3 : Int32)) (inb_of S1162 ⟨by decide, by decide⟩) (g := (mkF m 285 #[.val (.int p1), .val (.int p2), .val (.int p3), .val (.int tt), .val (.int ln), .val (.int dd), .val (.int nn), .val (.ref ba), .val (.int m0), .val (.int m1), .val (.int m2), .val (.int m3), .val (.int m4), .val (.int m5), .val (.int m6), .val (.ref b1015), .unset, .unset, .unset] [(.int (c3 ^^^ m3).toUInt32.toUInt16.toUInt32.toInt32), (.int (3 : Int32)), (.ref b1015)])) rfl rfl (hb hby at_285)
            have O1164 := O1151.wr W1163 ge1016
            have KP1165 := KP1152.wr W1163 (Or.inr sz1017)
            have Zs1166 := Nat.le_trans Zs1153 (Keep.of_wr W1163).1
            have CR1167 := CR1154.trans (CHr.wr W1163 f1157 CR1154.1)
            have hk1168 := Nat.le_trans hk1155 (Keep.of_wr W1163).1
            have f1169 := f1156.other W1163 (Nat.ne_of_lt (Nat.lt_of_lt_of_le hs1014_0.lt (Nat.le_of_eq g1015.symm)))
            have f1170 := (Safe.wr W1163 f1157 CR1154.1 f1157)
            have V1171 : Arv Z h1163 b1015 k1015 .char (7 : Int32) [(.int (nar .char (c0 ^^^ m0).toUInt32.toUInt16.toUInt32.toInt32)), (.int (nar .char (c1 ^^^ m1).toUInt32.toUInt16.toUInt32.toInt32)), (.int (nar .char (c2 ^^^ m2).toUInt32.toUInt16.toUInt32.toInt32)), (.int (nar .char (c3 ^^^ m3).toUInt32.toUInt16.toUInt32.toInt32)), (.int (0 : Int32)), (.int (0 : Int32)), (.int (0 : Int32))] (.int (0 : Int32)) := Arv.set A1162 q1162 S1162 M1162 H1162 U1162 (fits_nar_char _) W1163 3 rfl (Nat.le_of_ble_eq_true rfl)
            have N1172 := Fr.snoc X1163 N1159 ge1016
            refine own_back st1163 ?_
            show OwnGo p e below (T1163.setTop (mkF m 286 #[.val (.int p1), .val (.int p2), .val (.int p3), .val (.int tt), .val (.int ln), .val (.int dd), .val (.int nn), .val (.ref ba), .val (.int m0), .val (.int m1), .val (.int m2), .val (.int m3), .val (.int m4), .val (.int m5), .val (.int m6), .val (.ref b1015), .unset, .unset, .unset] [])) _
            refine own_back (fun t k => XS.aload X1163.here hx rfl (hb hby at_286) rfl rfl k) ?_
            show OwnGo p e below (T1163.setTop (mkF m 288 #[.val (.int p1), .val (.int p2), .val (.int p3), .val (.int tt), .val (.int ln), .val (.int dd), .val (.int nn), .val (.ref ba), .val (.int m0), .val (.int m1), .val (.int m2), .val (.int m3), .val (.int m4), .val (.int m5), .val (.int m6), .val (.ref b1015), .unset, .unset, .unset] [(.ref b1015)])) _
            refine own_back (fun t k => XS.iconst X1163.here hx rfl (hb hby at_288) k) ?_
            show OwnGo p e below (T1163.setTop (mkF m 289 #[.val (.int p1), .val (.int p2), .val (.int p3), .val (.int tt), .val (.int ln), .val (.int dd), .val (.int nn), .val (.ref ba), .val (.int m0), .val (.int m1), .val (.int m2), .val (.int m3), .val (.int m4), .val (.int m5), .val (.int m6), .val (.ref b1015), .unset, .unset, .unset] [(.int (4 : Int32)), (.ref b1015)])) _
            refine own_back (fun t k => XS.aload X1163.here hx rfl (hb hby at_289) rfl rfl k) ?_
            show OwnGo p e below (T1163.setTop (mkF m 291 #[.val (.int p1), .val (.int p2), .val (.int p3), .val (.int tt), .val (.int ln), .val (.int dd), .val (.int nn), .val (.ref ba), .val (.int m0), .val (.int m1), .val (.int m2), .val (.int m3), .val (.int m4), .val (.int m5), .val (.int m6), .val (.ref b1015), .unset, .unset, .unset] [(.ref ba), (.int (4 : Int32)), (.ref b1015)])) _
            refine own_back (fun t k => XS.iconst X1163.here hx rfl (hb hby at_291) k) ?_
            show OwnGo p e below (T1163.setTop (mkF m 292 #[.val (.int p1), .val (.int p2), .val (.int p3), .val (.int tt), .val (.int ln), .val (.int dd), .val (.int nn), .val (.ref ba), .val (.int m0), .val (.int m1), .val (.int m2), .val (.int m3), .val (.int m4), .val (.int m5), .val (.int m6), .val (.ref b1015), .unset, .unset, .unset] [(.int (4 : Int32)), (.ref ba), (.int (4 : Int32)), (.ref b1015)])) _
            obtain ⟨c1173, A1173, q1173, S1173, M1173, H1173, U1173⟩ := id f1169
            have ib1174 : ¬ ((4 : Int32) < 0 ∨ c1173.slots.size ≤ ((4 : Int32)).toNatClampNeg) := (inb_of S1173 ⟨by decide, by decide⟩)
            refine own_back (fun t k => X1163.caload hx (j := (4 : Int32)) (v := (.int c4)) (own_hat e1163 A1173.1) (State.isArrayOf_alike hZj1014.alike A1173.2.1) A1173.2.2 ib1174 (H1173.at ib1174 rfl) (g := (mkF m 292 #[.val (.int p1), .val (.int p2), .val (.int p3), .val (.int tt), .val (.int ln), .val (.int dd), .val (.int nn), .val (.ref ba), .val (.int m0), .val (.int m1), .val (.int m2), .val (.int m3), .val (.int m4), .val (.int m5), .val (.int m6), .val (.ref b1015), .unset, .unset, .unset] [(.int (4 : Int32)), (.ref ba), (.int (4 : Int32)), (.ref b1015)])) rfl rfl (hb hby at_292) t k) ?_
            show OwnGo p e below (T1163.setTop (mkF m 293 #[.val (.int p1), .val (.int p2), .val (.int p3), .val (.int tt), .val (.int ln), .val (.int dd), .val (.int nn), .val (.ref ba), .val (.int m0), .val (.int m1), .val (.int m2), .val (.int m3), .val (.int m4), .val (.int m5), .val (.int m6), .val (.ref b1015), .unset, .unset, .unset] [(.int c4), (.int (4 : Int32)), (.ref b1015)])) _
            refine own_back (fun t k => XS.iload X1163.here hx rfl (hb hby at_293) rfl k) ?_
            show OwnGo p e below (T1163.setTop (mkF m 295 #[.val (.int p1), .val (.int p2), .val (.int p3), .val (.int tt), .val (.int ln), .val (.int dd), .val (.int nn), .val (.ref ba), .val (.int m0), .val (.int m1), .val (.int m2), .val (.int m3), .val (.int m4), .val (.int m5), .val (.int m6), .val (.ref b1015), .unset, .unset, .unset] [(.int m4), (.int c4), (.int (4 : Int32)), (.ref b1015)])) _
            refine own_back (fun t k => XS.ixor X1163.here hx rfl (hb hby at_295) rfl k) ?_
            show OwnGo p e below (T1163.setTop (mkF m 296 #[.val (.int p1), .val (.int p2), .val (.int p3), .val (.int tt), .val (.int ln), .val (.int dd), .val (.int nn), .val (.ref ba), .val (.int m0), .val (.int m1), .val (.int m2), .val (.int m3), .val (.int m4), .val (.int m5), .val (.int m6), .val (.ref b1015), .unset, .unset, .unset] [(.int (c4 ^^^ m4)), (.int (4 : Int32)), (.ref b1015)])) _
            refine own_back (fun t k => XS.i2c X1163.here hx rfl (hb hby at_296) rfl k) ?_
            show OwnGo p e below (T1163.setTop (mkF m 297 #[.val (.int p1), .val (.int p2), .val (.int p3), .val (.int tt), .val (.int ln), .val (.int dd), .val (.int nn), .val (.ref ba), .val (.int m0), .val (.int m1), .val (.int m2), .val (.int m3), .val (.int m4), .val (.int m5), .val (.int m6), .val (.ref b1015), .unset, .unset, .unset] [(.int (c4 ^^^ m4).toUInt32.toUInt16.toUInt32.toInt32), (.int (4 : Int32)), (.ref b1015)])) _
            obtain ⟨c1175, A1175, q1175, S1175, M1175, H1175, U1175⟩ := id V1171
            obtain ⟨T1176, h1176, X1176, e1176, W1176, st1176⟩ := stC X1163 hx hZj1014 e1163 A1175 (j := (4 : Int32)) (inb_of S1175 ⟨by decide, by decide⟩) (g := (mkF m 297 #[.val (.int p1), .val (.int p2), .val (.int p3), .val (.int tt), .val (.int ln), .val (.int dd), .val (.int nn), .val (.ref ba), .val (.int m0), .val (.int m1), .val (.int m2), .val (.int m3), .val (.int m4), .val (.int m5), .val (.int m6), .val (.ref b1015), .unset, .unset, .unset] [(.int (c4 ^^^ m4).toUInt32.toUInt16.toUInt32.toInt32), (.int (4 : Int32)), (.ref b1015)])) rfl rfl (hb hby at_297)
            have O1177 := O1164.wr W1176 ge1016
            have KP1178 := KP1165.wr W1176 (Or.inr sz1017)
            have Zs1179 := Nat.le_trans Zs1166 (Keep.of_wr W1176).1
            have CR1180 := CR1167.trans (CHr.wr W1176 f1170 CR1167.1)
            have hk1181 := Nat.le_trans hk1168 (Keep.of_wr W1176).1
            have f1182 := f1169.other W1176 (Nat.ne_of_lt (Nat.lt_of_lt_of_le hs1014_0.lt (Nat.le_of_eq g1015.symm)))
            have f1183 := (Safe.wr W1176 f1170 CR1167.1 f1170)
            have V1184 : Arv Z h1176 b1015 k1015 .char (7 : Int32) [(.int (nar .char (c0 ^^^ m0).toUInt32.toUInt16.toUInt32.toInt32)), (.int (nar .char (c1 ^^^ m1).toUInt32.toUInt16.toUInt32.toInt32)), (.int (nar .char (c2 ^^^ m2).toUInt32.toUInt16.toUInt32.toInt32)), (.int (nar .char (c3 ^^^ m3).toUInt32.toUInt16.toUInt32.toInt32)), (.int (nar .char (c4 ^^^ m4).toUInt32.toUInt16.toUInt32.toInt32)), (.int (0 : Int32)), (.int (0 : Int32))] (.int (0 : Int32)) := Arv.set A1175 q1175 S1175 M1175 H1175 U1175 (fits_nar_char _) W1176 4 rfl (Nat.le_of_ble_eq_true rfl)
            have N1185 := Fr.snoc X1176 N1172 ge1016
            refine own_back st1176 ?_
            show OwnGo p e below (T1176.setTop (mkF m 298 #[.val (.int p1), .val (.int p2), .val (.int p3), .val (.int tt), .val (.int ln), .val (.int dd), .val (.int nn), .val (.ref ba), .val (.int m0), .val (.int m1), .val (.int m2), .val (.int m3), .val (.int m4), .val (.int m5), .val (.int m6), .val (.ref b1015), .unset, .unset, .unset] [])) _
            refine own_back (fun t k => XS.aload X1176.here hx rfl (hb hby at_298) rfl rfl k) ?_
            show OwnGo p e below (T1176.setTop (mkF m 300 #[.val (.int p1), .val (.int p2), .val (.int p3), .val (.int tt), .val (.int ln), .val (.int dd), .val (.int nn), .val (.ref ba), .val (.int m0), .val (.int m1), .val (.int m2), .val (.int m3), .val (.int m4), .val (.int m5), .val (.int m6), .val (.ref b1015), .unset, .unset, .unset] [(.ref b1015)])) _
            refine own_back (fun t k => XS.iconst X1176.here hx rfl (hb hby at_300) k) ?_
            show OwnGo p e below (T1176.setTop (mkF m 301 #[.val (.int p1), .val (.int p2), .val (.int p3), .val (.int tt), .val (.int ln), .val (.int dd), .val (.int nn), .val (.ref ba), .val (.int m0), .val (.int m1), .val (.int m2), .val (.int m3), .val (.int m4), .val (.int m5), .val (.int m6), .val (.ref b1015), .unset, .unset, .unset] [(.int (5 : Int32)), (.ref b1015)])) _
            refine own_back (fun t k => XS.aload X1176.here hx rfl (hb hby at_301) rfl rfl k) ?_
            show OwnGo p e below (T1176.setTop (mkF m 303 #[.val (.int p1), .val (.int p2), .val (.int p3), .val (.int tt), .val (.int ln), .val (.int dd), .val (.int nn), .val (.ref ba), .val (.int m0), .val (.int m1), .val (.int m2), .val (.int m3), .val (.int m4), .val (.int m5), .val (.int m6), .val (.ref b1015), .unset, .unset, .unset] [(.ref ba), (.int (5 : Int32)), (.ref b1015)])) _
            refine own_back (fun t k => XS.iconst X1176.here hx rfl (hb hby at_303) k) ?_
            show OwnGo p e below (T1176.setTop (mkF m 304 #[.val (.int p1), .val (.int p2), .val (.int p3), .val (.int tt), .val (.int ln), .val (.int dd), .val (.int nn), .val (.ref ba), .val (.int m0), .val (.int m1), .val (.int m2), .val (.int m3), .val (.int m4), .val (.int m5), .val (.int m6), .val (.ref b1015), .unset, .unset, .unset] [(.int (5 : Int32)), (.ref ba), (.int (5 : Int32)), (.ref b1015)])) _
            obtain ⟨c1186, A1186, q1186, S1186, M1186, H1186, U1186⟩ := id f1182
            have ib1187 : ¬ ((5 : Int32) < 0 ∨ c1186.slots.size ≤ ((5 : Int32)).toNatClampNeg) := (inb_of S1186 ⟨by decide, by decide⟩)
            refine own_back (fun t k => X1176.caload hx (j := (5 : Int32)) (v := (.int c5)) (own_hat e1176 A1186.1) (State.isArrayOf_alike hZj1014.alike A1186.2.1) A1186.2.2 ib1187 (H1186.at ib1187 rfl) (g := (mkF m 304 #[.val (.int p1), .val (.int p2), .val (.int p3), .val (.int tt), .val (.int ln), .val (.int dd), .val (.int nn), .val (.ref ba), .val (.int m0), .val (.int m1), .val (.int m2), .val (.int m3), .val (.int m4), .val (.int m5), .val (.int m6), .val (.ref b1015), .unset, .unset, .unset] [(.int (5 : Int32)), (.ref ba), (.int (5 : Int32)), (.ref b1015)])) rfl rfl (hb hby at_304) t k) ?_
            show OwnGo p e below (T1176.setTop (mkF m 305 #[.val (.int p1), .val (.int p2), .val (.int p3), .val (.int tt), .val (.int ln), .val (.int dd), .val (.int nn), .val (.ref ba), .val (.int m0), .val (.int m1), .val (.int m2), .val (.int m3), .val (.int m4), .val (.int m5), .val (.int m6), .val (.ref b1015), .unset, .unset, .unset] [(.int c5), (.int (5 : Int32)), (.ref b1015)])) _
            refine own_back (fun t k => XS.iload X1176.here hx rfl (hb hby at_305) rfl k) ?_
            show OwnGo p e below (T1176.setTop (mkF m 307 #[.val (.int p1), .val (.int p2), .val (.int p3), .val (.int tt), .val (.int ln), .val (.int dd), .val (.int nn), .val (.ref ba), .val (.int m0), .val (.int m1), .val (.int m2), .val (.int m3), .val (.int m4), .val (.int m5), .val (.int m6), .val (.ref b1015), .unset, .unset, .unset] [(.int m5), (.int c5), (.int (5 : Int32)), (.ref b1015)])) _
            refine own_back (fun t k => XS.ixor X1176.here hx rfl (hb hby at_307) rfl k) ?_
            show OwnGo p e below (T1176.setTop (mkF m 308 #[.val (.int p1), .val (.int p2), .val (.int p3), .val (.int tt), .val (.int ln), .val (.int dd), .val (.int nn), .val (.ref ba), .val (.int m0), .val (.int m1), .val (.int m2), .val (.int m3), .val (.int m4), .val (.int m5), .val (.int m6), .val (.ref b1015), .unset, .unset, .unset] [(.int (c5 ^^^ m5)), (.int (5 : Int32)), (.ref b1015)])) _
            refine own_back (fun t k => XS.i2c X1176.here hx rfl (hb hby at_308) rfl k) ?_
            show OwnGo p e below (T1176.setTop (mkF m 309 #[.val (.int p1), .val (.int p2), .val (.int p3), .val (.int tt), .val (.int ln), .val (.int dd), .val (.int nn), .val (.ref ba), .val (.int m0), .val (.int m1), .val (.int m2), .val (.int m3), .val (.int m4), .val (.int m5), .val (.int m6), .val (.ref b1015), .unset, .unset, .unset] [(.int (c5 ^^^ m5).toUInt32.toUInt16.toUInt32.toInt32), (.int (5 : Int32)), (.ref b1015)])) _
            obtain ⟨c1188, A1188, q1188, S1188, M1188, H1188, U1188⟩ := id V1184
            obtain ⟨T1189, h1189, X1189, e1189, W1189, st1189⟩ := stC X1176 hx hZj1014 e1176 A1188 (j := (5 : Int32)) (inb_of S1188 ⟨by decide, by decide⟩) (g := (mkF m 309 #[.val (.int p1), .val (.int p2), .val (.int p3), .val (.int tt), .val (.int ln), .val (.int dd), .val (.int nn), .val (.ref ba), .val (.int m0), .val (.int m1), .val (.int m2), .val (.int m3), .val (.int m4), .val (.int m5), .val (.int m6), .val (.ref b1015), .unset, .unset, .unset] [(.int (c5 ^^^ m5).toUInt32.toUInt16.toUInt32.toInt32), (.int (5 : Int32)), (.ref b1015)])) rfl rfl (hb hby at_309)
            have O1190 := O1177.wr W1189 ge1016
            have KP1191 := KP1178.wr W1189 (Or.inr sz1017)
            have Zs1192 := Nat.le_trans Zs1179 (Keep.of_wr W1189).1
            have CR1193 := CR1180.trans (CHr.wr W1189 f1183 CR1180.1)
            have hk1194 := Nat.le_trans hk1181 (Keep.of_wr W1189).1
            have f1195 := f1182.other W1189 (Nat.ne_of_lt (Nat.lt_of_lt_of_le hs1014_0.lt (Nat.le_of_eq g1015.symm)))
            have f1196 := (Safe.wr W1189 f1183 CR1180.1 f1183)
            have V1197 : Arv Z h1189 b1015 k1015 .char (7 : Int32) [(.int (nar .char (c0 ^^^ m0).toUInt32.toUInt16.toUInt32.toInt32)), (.int (nar .char (c1 ^^^ m1).toUInt32.toUInt16.toUInt32.toInt32)), (.int (nar .char (c2 ^^^ m2).toUInt32.toUInt16.toUInt32.toInt32)), (.int (nar .char (c3 ^^^ m3).toUInt32.toUInt16.toUInt32.toInt32)), (.int (nar .char (c4 ^^^ m4).toUInt32.toUInt16.toUInt32.toInt32)), (.int (nar .char (c5 ^^^ m5).toUInt32.toUInt16.toUInt32.toInt32)), (.int (0 : Int32))] (.int (0 : Int32)) := Arv.set A1188 q1188 S1188 M1188 H1188 U1188 (fits_nar_char _) W1189 5 rfl (Nat.le_of_ble_eq_true rfl)
            have N1198 := Fr.snoc X1189 N1185 ge1016
            refine own_back st1189 ?_
            show OwnGo p e below (T1189.setTop (mkF m 310 #[.val (.int p1), .val (.int p2), .val (.int p3), .val (.int tt), .val (.int ln), .val (.int dd), .val (.int nn), .val (.ref ba), .val (.int m0), .val (.int m1), .val (.int m2), .val (.int m3), .val (.int m4), .val (.int m5), .val (.int m6), .val (.ref b1015), .unset, .unset, .unset] [])) _
            refine own_back (fun t k => XS.aload X1189.here hx rfl (hb hby at_310) rfl rfl k) ?_
            show OwnGo p e below (T1189.setTop (mkF m 312 #[.val (.int p1), .val (.int p2), .val (.int p3), .val (.int tt), .val (.int ln), .val (.int dd), .val (.int nn), .val (.ref ba), .val (.int m0), .val (.int m1), .val (.int m2), .val (.int m3), .val (.int m4), .val (.int m5), .val (.int m6), .val (.ref b1015), .unset, .unset, .unset] [(.ref b1015)])) _
            refine own_back (fun t k => XS.bipush X1189.here hx rfl (hb hby at_312) k) ?_
            show OwnGo p e below (T1189.setTop (mkF m 314 #[.val (.int p1), .val (.int p2), .val (.int p3), .val (.int tt), .val (.int ln), .val (.int dd), .val (.int nn), .val (.ref ba), .val (.int m0), .val (.int m1), .val (.int m2), .val (.int m3), .val (.int m4), .val (.int m5), .val (.int m6), .val (.ref b1015), .unset, .unset, .unset] [(.int (6 : Int32)), (.ref b1015)])) _
            refine own_back (fun t k => XS.aload X1189.here hx rfl (hb hby at_314) rfl rfl k) ?_
            show OwnGo p e below (T1189.setTop (mkF m 316 #[.val (.int p1), .val (.int p2), .val (.int p3), .val (.int tt), .val (.int ln), .val (.int dd), .val (.int nn), .val (.ref ba), .val (.int m0), .val (.int m1), .val (.int m2), .val (.int m3), .val (.int m4), .val (.int m5), .val (.int m6), .val (.ref b1015), .unset, .unset, .unset] [(.ref ba), (.int (6 : Int32)), (.ref b1015)])) _
            refine own_back (fun t k => XS.bipush X1189.here hx rfl (hb hby at_316) k) ?_
            show OwnGo p e below (T1189.setTop (mkF m 318 #[.val (.int p1), .val (.int p2), .val (.int p3), .val (.int tt), .val (.int ln), .val (.int dd), .val (.int nn), .val (.ref ba), .val (.int m0), .val (.int m1), .val (.int m2), .val (.int m3), .val (.int m4), .val (.int m5), .val (.int m6), .val (.ref b1015), .unset, .unset, .unset] [(.int (6 : Int32)), (.ref ba), (.int (6 : Int32)), (.ref b1015)])) _
            obtain ⟨c1199, A1199, q1199, S1199, M1199, H1199, U1199⟩ := id f1195
            have ib1200 : ¬ ((6 : Int32) < 0 ∨ c1199.slots.size ≤ ((6 : Int32)).toNatClampNeg) := (inb_of S1199 ⟨by decide, by decide⟩)
            refine own_back (fun t k => X1189.caload hx (j := (6 : Int32)) (v := (.int c6)) (own_hat e1189 A1199.1) (State.isArrayOf_alike hZj1014.alike A1199.2.1) A1199.2.2 ib1200 (H1199.at ib1200 rfl) (g := (mkF m 318 #[.val (.int p1), .val (.int p2), .val (.int p3), .val (.int tt), .val (.int ln), .val (.int dd), .val (.int nn), .val (.ref ba), .val (.int m0), .val (.int m1), .val (.int m2), .val (.int m3), .val (.int m4), .val (.int m5), .val (.int m6), .val (.ref b1015), .unset, .unset, .unset] [(.int (6 : Int32)), (.ref ba), (.int (6 : Int32)), (.ref b1015)])) rfl rfl (hb hby at_318) t k) ?_
            show OwnGo p e below (T1189.setTop (mkF m 319 #[.val (.int p1), .val (.int p2), .val (.int p3), .val (.int tt), .val (.int ln), .val (.int dd), .val (.int nn), .val (.ref ba), .val (.int m0), .val (.int m1), .val (.int m2), .val (.int m3), .val (.int m4), .val (.int m5), .val (.int m6), .val (.ref b1015), .unset, .unset, .unset] [(.int c6), (.int (6 : Int32)), (.ref b1015)])) _
            refine own_back (fun t k => XS.iload X1189.here hx rfl (hb hby at_319) rfl k) ?_
            show OwnGo p e below (T1189.setTop (mkF m 321 #[.val (.int p1), .val (.int p2), .val (.int p3), .val (.int tt), .val (.int ln), .val (.int dd), .val (.int nn), .val (.ref ba), .val (.int m0), .val (.int m1), .val (.int m2), .val (.int m3), .val (.int m4), .val (.int m5), .val (.int m6), .val (.ref b1015), .unset, .unset, .unset] [(.int m6), (.int c6), (.int (6 : Int32)), (.ref b1015)])) _
            refine own_back (fun t k => XS.ixor X1189.here hx rfl (hb hby at_321) rfl k) ?_
            show OwnGo p e below (T1189.setTop (mkF m 322 #[.val (.int p1), .val (.int p2), .val (.int p3), .val (.int tt), .val (.int ln), .val (.int dd), .val (.int nn), .val (.ref ba), .val (.int m0), .val (.int m1), .val (.int m2), .val (.int m3), .val (.int m4), .val (.int m5), .val (.int m6), .val (.ref b1015), .unset, .unset, .unset] [(.int (c6 ^^^ m6)), (.int (6 : Int32)), (.ref b1015)])) _
            refine own_back (fun t k => XS.i2c X1189.here hx rfl (hb hby at_322) rfl k) ?_
            show OwnGo p e below (T1189.setTop (mkF m 323 #[.val (.int p1), .val (.int p2), .val (.int p3), .val (.int tt), .val (.int ln), .val (.int dd), .val (.int nn), .val (.ref ba), .val (.int m0), .val (.int m1), .val (.int m2), .val (.int m3), .val (.int m4), .val (.int m5), .val (.int m6), .val (.ref b1015), .unset, .unset, .unset] [(.int (c6 ^^^ m6).toUInt32.toUInt16.toUInt32.toInt32), (.int (6 : Int32)), (.ref b1015)])) _
            obtain ⟨c1201, A1201, q1201, S1201, M1201, H1201, U1201⟩ := id V1197
            obtain ⟨T1202, h1202, X1202, e1202, W1202, st1202⟩ := stC X1189 hx hZj1014 e1189 A1201 (j := (6 : Int32)) (inb_of S1201 ⟨by decide, by decide⟩) (g := (mkF m 323 #[.val (.int p1), .val (.int p2), .val (.int p3), .val (.int tt), .val (.int ln), .val (.int dd), .val (.int nn), .val (.ref ba), .val (.int m0), .val (.int m1), .val (.int m2), .val (.int m3), .val (.int m4), .val (.int m5), .val (.int m6), .val (.ref b1015), .unset, .unset, .unset] [(.int (c6 ^^^ m6).toUInt32.toUInt16.toUInt32.toInt32), (.int (6 : Int32)), (.ref b1015)])) rfl rfl (hb hby at_323)
            have O1203 := O1190.wr W1202 ge1016
            have KP1204 := KP1191.wr W1202 (Or.inr sz1017)
            have Zs1205 := Nat.le_trans Zs1192 (Keep.of_wr W1202).1
            have CR1206 := CR1193.trans (CHr.wr W1202 f1196 CR1193.1)
            have hk1207 := Nat.le_trans hk1194 (Keep.of_wr W1202).1
            have f1208 := f1195.other W1202 (Nat.ne_of_lt (Nat.lt_of_lt_of_le hs1014_0.lt (Nat.le_of_eq g1015.symm)))
            have f1209 := (Safe.wr W1202 f1196 CR1193.1 f1196)
            have V1210 : Arv Z h1202 b1015 k1015 .char (7 : Int32) [(.int (nar .char (c0 ^^^ m0).toUInt32.toUInt16.toUInt32.toInt32)), (.int (nar .char (c1 ^^^ m1).toUInt32.toUInt16.toUInt32.toInt32)), (.int (nar .char (c2 ^^^ m2).toUInt32.toUInt16.toUInt32.toInt32)), (.int (nar .char (c3 ^^^ m3).toUInt32.toUInt16.toUInt32.toInt32)), (.int (nar .char (c4 ^^^ m4).toUInt32.toUInt16.toUInt32.toInt32)), (.int (nar .char (c5 ^^^ m5).toUInt32.toUInt16.toUInt32.toInt32)), (.int (nar .char (c6 ^^^ m6).toUInt32.toUInt16.toUInt32.toInt32))] (.int (0 : Int32)) := Arv.set A1201 q1201 S1201 M1201 H1201 U1201 (fits_nar_char _) W1202 6 rfl (Nat.le_of_ble_eq_true rfl)
            have N1211 := Fr.snoc X1202 N1198 ge1016
            refine own_back st1202 ?_
            show OwnGo p e below (T1202.setTop (mkF m 324 #[.val (.int p1), .val (.int p2), .val (.int p3), .val (.int tt), .val (.int ln), .val (.int dd), .val (.int nn), .val (.ref ba), .val (.int m0), .val (.int m1), .val (.int m2), .val (.int m3), .val (.int m4), .val (.int m5), .val (.int m6), .val (.ref b1015), .unset, .unset, .unset] [])) _
            exact tl324_1026 _ _ b1015 k1015 (nar .char (c0 ^^^ m0).toUInt32.toUInt16.toUInt32.toInt32) (nar .char (c1 ^^^ m1).toUInt32.toUInt16.toUInt32.toInt32) (nar .char (c2 ^^^ m2).toUInt32.toUInt16.toUInt32.toInt32) (nar .char (c3 ^^^ m3).toUInt32.toUInt16.toUInt32.toInt32) (nar .char (c4 ^^^ m4).toUInt32.toUInt16.toUInt32.toInt32) (nar .char (c5 ^^^ m5).toUInt32.toUInt16.toUInt32.toInt32) (nar .char (c6 ^^^ m6).toUInt32.toUInt16.toUInt32.toInt32) ⟨_, _, _, X1202, e1202, hSj1014, hk1207, hZj1014, hownj1014, CR1206, O1203, KP1204, Zs1205, N1211⟩ V1210 (own_allS (own_xor (hcs _ (List.mem_of_getElem? (i := 0) rfl)) (hms _ (List.mem_of_getElem? (i := 0) rfl))) (own_allS (own_xor (hcs _ (List.mem_of_getElem? (i := 1) rfl)) (hms _ (List.mem_of_getElem? (i := 1) rfl))) (own_allS (own_xor (hcs _ (List.mem_of_getElem? (i := 2) rfl)) (hms _ (List.mem_of_getElem? (i := 2) rfl))) (own_allS (own_xor (hcs _ (List.mem_of_getElem? (i := 3) rfl)) (hms _ (List.mem_of_getElem? (i := 3) rfl))) (own_allS (own_xor (hcs _ (List.mem_of_getElem? (i := 4) rfl)) (hms _ (List.mem_of_getElem? (i := 4) rfl))) (own_allS (own_xor (hcs _ (List.mem_of_getElem? (i := 5) rfl)) (hms _ (List.mem_of_getElem? (i := 5) rfl))) (own_allS (own_xor (hcs _ (List.mem_of_getElem? (i := 6) rfl)) (hms _ (List.mem_of_getElem? (i := 6) rfl))) own_all0)))))))
          by_cases hc165_1212 : dd = (0 : Int32)
          · refine own_back (fun t k => XS.ifYes Xj1013.here hx rfl (pc0 := 165) (pc' := 232) rfl (hb hby at_165) rfl (Jvm.Free.XT.i0_eq_t hc165_1212) (by decide) (by decide) k) ?_
            show OwnGo p e below (Tj1013.setTop (mkF m 232 #[.val (.int p1), .val (.int p2), .val (.int p3), .val (.int tt), .val (.int ln), .val (.int dd), .val (.int nn), .val (.ref ba), .val (.int (0 : Int32)), .val (.int (0 : Int32)), .val (.int (0 : Int32)), .val (.int (0 : Int32)), .val (.int (0 : Int32)), .val (.int (0 : Int32)), .val (.int (0 : Int32)), .unset, .unset, .unset, .unset] [])) _
            exact tl232_1014 _ _ (0 : Int32) (0 : Int32) (0 : Int32) (0 : Int32) (0 : Int32) (0 : Int32) (0 : Int32) ⟨_, _, _, Xj1013, ej1013, hSj1013, hkj1013, hZj1013, hownj1013, CRj1013, Oj1013, KPj1013, Zj1013, Nj1013⟩ hs1013_0 (own_allS (OwnCh.of (by decide)) (own_allS (OwnCh.of (by decide)) (own_allS (OwnCh.of (by decide)) (own_allS (OwnCh.of (by decide)) (own_allS (OwnCh.of (by decide)) (own_allS (OwnCh.of (by decide)) (own_allS (OwnCh.of (by decide)) own_all0)))))))
          · refine own_back (fun t k => XS.ifNo Xj1013.here hx rfl (hb hby at_165) rfl (Jvm.Free.XT.i0_eq_f hc165_1212) k) ?_
            show OwnGo p e below (Tj1013.setTop (mkF m 168 #[.val (.int p1), .val (.int p2), .val (.int p3), .val (.int tt), .val (.int ln), .val (.int dd), .val (.int nn), .val (.ref ba), .val (.int (0 : Int32)), .val (.int (0 : Int32)), .val (.int (0 : Int32)), .val (.int (0 : Int32)), .val (.int (0 : Int32)), .val (.int (0 : Int32)), .val (.int (0 : Int32)), .unset, .unset, .unset, .unset] [])) _
            refine own_back (fun t k => XS.iloadN Xj1013.here hx rfl (hb hby at_168) rfl k) ?_
            show OwnGo p e below (Tj1013.setTop (mkF m 169 #[.val (.int p1), .val (.int p2), .val (.int p3), .val (.int tt), .val (.int ln), .val (.int dd), .val (.int nn), .val (.ref ba), .val (.int (0 : Int32)), .val (.int (0 : Int32)), .val (.int (0 : Int32)), .val (.int (0 : Int32)), .val (.int (0 : Int32)), .val (.int (0 : Int32)), .val (.int (0 : Int32)), .unset, .unset, .unset, .unset] [(.int p2)])) _
            refine own_back (fun t k => XS.sipush Xj1013.here hx rfl (hb hby at_169) k) ?_
            show OwnGo p e below (Tj1013.setTop (mkF m 172 #[.val (.int p1), .val (.int p2), .val (.int p3), .val (.int tt), .val (.int ln), .val (.int dd), .val (.int nn), .val (.ref ba), .val (.int (0 : Int32)), .val (.int (0 : Int32)), .val (.int (0 : Int32)), .val (.int (0 : Int32)), .val (.int (0 : Int32)), .val (.int (0 : Int32)), .val (.int (0 : Int32)), .unset, .unset, .unset, .unset] [(.int (255 : Int32)), (.int p2)])) _
            refine own_back (fun t k => XS.iand Xj1013.here hx rfl (hb hby at_172) rfl k) ?_
            show OwnGo p e below (Tj1013.setTop (mkF m 173 #[.val (.int p1), .val (.int p2), .val (.int p3), .val (.int tt), .val (.int ln), .val (.int dd), .val (.int nn), .val (.ref ba), .val (.int (0 : Int32)), .val (.int (0 : Int32)), .val (.int (0 : Int32)), .val (.int (0 : Int32)), .val (.int (0 : Int32)), .val (.int (0 : Int32)), .val (.int (0 : Int32)), .unset, .unset, .unset, .unset] [(.int (p2 &&& (255 : Int32)))])) _
            refine own_back (fun t k => XS.istore Xj1013.here hx rfl (hb hby at_173) rfl (l' := #[.val (.int p1), .val (.int p2), .val (.int p3), .val (.int tt), .val (.int ln), .val (.int dd), .val (.int nn), .val (.ref ba), .val (.int (p2 &&& (255 : Int32))), .val (.int (0 : Int32)), .val (.int (0 : Int32)), .val (.int (0 : Int32)), .val (.int (0 : Int32)), .val (.int (0 : Int32)), .val (.int (0 : Int32)), .unset, .unset, .unset, .unset]) rfl k) ?_
            show OwnGo p e below (Tj1013.setTop (mkF m 175 #[.val (.int p1), .val (.int p2), .val (.int p3), .val (.int tt), .val (.int ln), .val (.int dd), .val (.int nn), .val (.ref ba), .val (.int (p2 &&& (255 : Int32))), .val (.int (0 : Int32)), .val (.int (0 : Int32)), .val (.int (0 : Int32)), .val (.int (0 : Int32)), .val (.int (0 : Int32)), .val (.int (0 : Int32)), .unset, .unset, .unset, .unset] [])) _
            refine own_back (fun t k => XS.iloadN Xj1013.here hx rfl (hb hby at_175) rfl k) ?_
            show OwnGo p e below (Tj1013.setTop (mkF m 176 #[.val (.int p1), .val (.int p2), .val (.int p3), .val (.int tt), .val (.int ln), .val (.int dd), .val (.int nn), .val (.ref ba), .val (.int (p2 &&& (255 : Int32))), .val (.int (0 : Int32)), .val (.int (0 : Int32)), .val (.int (0 : Int32)), .val (.int (0 : Int32)), .val (.int (0 : Int32)), .val (.int (0 : Int32)), .unset, .unset, .unset, .unset] [(.int p2)])) _
            refine own_back (fun t k => XS.bipush Xj1013.here hx rfl (hb hby at_176) k) ?_
            show OwnGo p e below (Tj1013.setTop (mkF m 178 #[.val (.int p1), .val (.int p2), .val (.int p3), .val (.int tt), .val (.int ln), .val (.int dd), .val (.int nn), .val (.ref ba), .val (.int (p2 &&& (255 : Int32))), .val (.int (0 : Int32)), .val (.int (0 : Int32)), .val (.int (0 : Int32)), .val (.int (0 : Int32)), .val (.int (0 : Int32)), .val (.int (0 : Int32)), .unset, .unset, .unset, .unset] [(.int (8 : Int32)), (.int p2)])) _
            refine own_back (fun t k => XS.iushr Xj1013.here hx rfl (hb hby at_178) rfl k) ?_
            show OwnGo p e below (Tj1013.setTop (mkF m 179 #[.val (.int p1), .val (.int p2), .val (.int p3), .val (.int tt), .val (.int ln), .val (.int dd), .val (.int nn), .val (.ref ba), .val (.int (p2 &&& (255 : Int32))), .val (.int (0 : Int32)), .val (.int (0 : Int32)), .val (.int (0 : Int32)), .val (.int (0 : Int32)), .val (.int (0 : Int32)), .val (.int (0 : Int32)), .unset, .unset, .unset, .unset] [(.int ((p2.toUInt32 >>> ((8 : Int32) &&& 31).toUInt32).toInt32))])) _
            refine own_back (fun t k => XS.sipush Xj1013.here hx rfl (hb hby at_179) k) ?_
            show OwnGo p e below (Tj1013.setTop (mkF m 182 #[.val (.int p1), .val (.int p2), .val (.int p3), .val (.int tt), .val (.int ln), .val (.int dd), .val (.int nn), .val (.ref ba), .val (.int (p2 &&& (255 : Int32))), .val (.int (0 : Int32)), .val (.int (0 : Int32)), .val (.int (0 : Int32)), .val (.int (0 : Int32)), .val (.int (0 : Int32)), .val (.int (0 : Int32)), .unset, .unset, .unset, .unset] [(.int (255 : Int32)), (.int ((p2.toUInt32 >>> ((8 : Int32) &&& 31).toUInt32).toInt32))])) _
            refine own_back (fun t k => XS.iand Xj1013.here hx rfl (hb hby at_182) rfl k) ?_
            show OwnGo p e below (Tj1013.setTop (mkF m 183 #[.val (.int p1), .val (.int p2), .val (.int p3), .val (.int tt), .val (.int ln), .val (.int dd), .val (.int nn), .val (.ref ba), .val (.int (p2 &&& (255 : Int32))), .val (.int (0 : Int32)), .val (.int (0 : Int32)), .val (.int (0 : Int32)), .val (.int (0 : Int32)), .val (.int (0 : Int32)), .val (.int (0 : Int32)), .unset, .unset, .unset, .unset] [(.int (((p2.toUInt32 >>> ((8 : Int32) &&& 31).toUInt32).toInt32) &&& (255 : Int32)))])) _
            refine own_back (fun t k => XS.istore Xj1013.here hx rfl (hb hby at_183) rfl (l' := #[.val (.int p1), .val (.int p2), .val (.int p3), .val (.int tt), .val (.int ln), .val (.int dd), .val (.int nn), .val (.ref ba), .val (.int (p2 &&& (255 : Int32))), .val (.int (((p2.toUInt32 >>> ((8 : Int32) &&& 31).toUInt32).toInt32) &&& (255 : Int32))), .val (.int (0 : Int32)), .val (.int (0 : Int32)), .val (.int (0 : Int32)), .val (.int (0 : Int32)), .val (.int (0 : Int32)), .unset, .unset, .unset, .unset]) rfl k) ?_
            show OwnGo p e below (Tj1013.setTop (mkF m 185 #[.val (.int p1), .val (.int p2), .val (.int p3), .val (.int tt), .val (.int ln), .val (.int dd), .val (.int nn), .val (.ref ba), .val (.int (p2 &&& (255 : Int32))), .val (.int (((p2.toUInt32 >>> ((8 : Int32) &&& 31).toUInt32).toInt32) &&& (255 : Int32))), .val (.int (0 : Int32)), .val (.int (0 : Int32)), .val (.int (0 : Int32)), .val (.int (0 : Int32)), .val (.int (0 : Int32)), .unset, .unset, .unset, .unset] [])) _
            refine own_back (fun t k => XS.iloadN Xj1013.here hx rfl (hb hby at_185) rfl k) ?_
            show OwnGo p e below (Tj1013.setTop (mkF m 186 #[.val (.int p1), .val (.int p2), .val (.int p3), .val (.int tt), .val (.int ln), .val (.int dd), .val (.int nn), .val (.ref ba), .val (.int (p2 &&& (255 : Int32))), .val (.int (((p2.toUInt32 >>> ((8 : Int32) &&& 31).toUInt32).toInt32) &&& (255 : Int32))), .val (.int (0 : Int32)), .val (.int (0 : Int32)), .val (.int (0 : Int32)), .val (.int (0 : Int32)), .val (.int (0 : Int32)), .unset, .unset, .unset, .unset] [(.int p2)])) _
            refine own_back (fun t k => XS.bipush Xj1013.here hx rfl (hb hby at_186) k) ?_
            show OwnGo p e below (Tj1013.setTop (mkF m 188 #[.val (.int p1), .val (.int p2), .val (.int p3), .val (.int tt), .val (.int ln), .val (.int dd), .val (.int nn), .val (.ref ba), .val (.int (p2 &&& (255 : Int32))), .val (.int (((p2.toUInt32 >>> ((8 : Int32) &&& 31).toUInt32).toInt32) &&& (255 : Int32))), .val (.int (0 : Int32)), .val (.int (0 : Int32)), .val (.int (0 : Int32)), .val (.int (0 : Int32)), .val (.int (0 : Int32)), .unset, .unset, .unset, .unset] [(.int (16 : Int32)), (.int p2)])) _
            refine own_back (fun t k => XS.iushr Xj1013.here hx rfl (hb hby at_188) rfl k) ?_
            show OwnGo p e below (Tj1013.setTop (mkF m 189 #[.val (.int p1), .val (.int p2), .val (.int p3), .val (.int tt), .val (.int ln), .val (.int dd), .val (.int nn), .val (.ref ba), .val (.int (p2 &&& (255 : Int32))), .val (.int (((p2.toUInt32 >>> ((8 : Int32) &&& 31).toUInt32).toInt32) &&& (255 : Int32))), .val (.int (0 : Int32)), .val (.int (0 : Int32)), .val (.int (0 : Int32)), .val (.int (0 : Int32)), .val (.int (0 : Int32)), .unset, .unset, .unset, .unset] [(.int ((p2.toUInt32 >>> ((16 : Int32) &&& 31).toUInt32).toInt32))])) _
            refine own_back (fun t k => XS.sipush Xj1013.here hx rfl (hb hby at_189) k) ?_
            show OwnGo p e below (Tj1013.setTop (mkF m 192 #[.val (.int p1), .val (.int p2), .val (.int p3), .val (.int tt), .val (.int ln), .val (.int dd), .val (.int nn), .val (.ref ba), .val (.int (p2 &&& (255 : Int32))), .val (.int (((p2.toUInt32 >>> ((8 : Int32) &&& 31).toUInt32).toInt32) &&& (255 : Int32))), .val (.int (0 : Int32)), .val (.int (0 : Int32)), .val (.int (0 : Int32)), .val (.int (0 : Int32)), .val (.int (0 : Int32)), .unset, .unset, .unset, .unset] [(.int (255 : Int32)), (.int ((p2.toUInt32 >>> ((16 : Int32) &&& 31).toUInt32).toInt32))])) _
            refine own_back (fun t k => XS.iand Xj1013.here hx rfl (hb hby at_192) rfl k) ?_
            show OwnGo p e below (Tj1013.setTop (mkF m 193 #[.val (.int p1), .val (.int p2), .val (.int p3), .val (.int tt), .val (.int ln), .val (.int dd), .val (.int nn), .val (.ref ba), .val (.int (p2 &&& (255 : Int32))), .val (.int (((p2.toUInt32 >>> ((8 : Int32) &&& 31).toUInt32).toInt32) &&& (255 : Int32))), .val (.int (0 : Int32)), .val (.int (0 : Int32)), .val (.int (0 : Int32)), .val (.int (0 : Int32)), .val (.int (0 : Int32)), .unset, .unset, .unset, .unset] [(.int (((p2.toUInt32 >>> ((16 : Int32) &&& 31).toUInt32).toInt32) &&& (255 : Int32)))])) _
            refine own_back (fun t k => XS.istore Xj1013.here hx rfl (hb hby at_193) rfl (l' := #[.val (.int p1), .val (.int p2), .val (.int p3), .val (.int tt), .val (.int ln), .val (.int dd), .val (.int nn), .val (.ref ba), .val (.int (p2 &&& (255 : Int32))), .val (.int (((p2.toUInt32 >>> ((8 : Int32) &&& 31).toUInt32).toInt32) &&& (255 : Int32))), .val (.int (((p2.toUInt32 >>> ((16 : Int32) &&& 31).toUInt32).toInt32) &&& (255 : Int32))), .val (.int (0 : Int32)), .val (.int (0 : Int32)), .val (.int (0 : Int32)), .val (.int (0 : Int32)), .unset, .unset, .unset, .unset]) rfl k) ?_
            show OwnGo p e below (Tj1013.setTop (mkF m 195 #[.val (.int p1), .val (.int p2), .val (.int p3), .val (.int tt), .val (.int ln), .val (.int dd), .val (.int nn), .val (.ref ba), .val (.int (p2 &&& (255 : Int32))), .val (.int (((p2.toUInt32 >>> ((8 : Int32) &&& 31).toUInt32).toInt32) &&& (255 : Int32))), .val (.int (((p2.toUInt32 >>> ((16 : Int32) &&& 31).toUInt32).toInt32) &&& (255 : Int32))), .val (.int (0 : Int32)), .val (.int (0 : Int32)), .val (.int (0 : Int32)), .val (.int (0 : Int32)), .unset, .unset, .unset, .unset] [])) _
            refine own_back (fun t k => XS.iloadN Xj1013.here hx rfl (hb hby at_195) rfl k) ?_
            show OwnGo p e below (Tj1013.setTop (mkF m 196 #[.val (.int p1), .val (.int p2), .val (.int p3), .val (.int tt), .val (.int ln), .val (.int dd), .val (.int nn), .val (.ref ba), .val (.int (p2 &&& (255 : Int32))), .val (.int (((p2.toUInt32 >>> ((8 : Int32) &&& 31).toUInt32).toInt32) &&& (255 : Int32))), .val (.int (((p2.toUInt32 >>> ((16 : Int32) &&& 31).toUInt32).toInt32) &&& (255 : Int32))), .val (.int (0 : Int32)), .val (.int (0 : Int32)), .val (.int (0 : Int32)), .val (.int (0 : Int32)), .unset, .unset, .unset, .unset] [(.int p2)])) _
            refine own_back (fun t k => XS.bipush Xj1013.here hx rfl (hb hby at_196) k) ?_
            show OwnGo p e below (Tj1013.setTop (mkF m 198 #[.val (.int p1), .val (.int p2), .val (.int p3), .val (.int tt), .val (.int ln), .val (.int dd), .val (.int nn), .val (.ref ba), .val (.int (p2 &&& (255 : Int32))), .val (.int (((p2.toUInt32 >>> ((8 : Int32) &&& 31).toUInt32).toInt32) &&& (255 : Int32))), .val (.int (((p2.toUInt32 >>> ((16 : Int32) &&& 31).toUInt32).toInt32) &&& (255 : Int32))), .val (.int (0 : Int32)), .val (.int (0 : Int32)), .val (.int (0 : Int32)), .val (.int (0 : Int32)), .unset, .unset, .unset, .unset] [(.int (24 : Int32)), (.int p2)])) _
            refine own_back (fun t k => XS.iushr Xj1013.here hx rfl (hb hby at_198) rfl k) ?_
            show OwnGo p e below (Tj1013.setTop (mkF m 199 #[.val (.int p1), .val (.int p2), .val (.int p3), .val (.int tt), .val (.int ln), .val (.int dd), .val (.int nn), .val (.ref ba), .val (.int (p2 &&& (255 : Int32))), .val (.int (((p2.toUInt32 >>> ((8 : Int32) &&& 31).toUInt32).toInt32) &&& (255 : Int32))), .val (.int (((p2.toUInt32 >>> ((16 : Int32) &&& 31).toUInt32).toInt32) &&& (255 : Int32))), .val (.int (0 : Int32)), .val (.int (0 : Int32)), .val (.int (0 : Int32)), .val (.int (0 : Int32)), .unset, .unset, .unset, .unset] [(.int ((p2.toUInt32 >>> ((24 : Int32) &&& 31).toUInt32).toInt32))])) _
            refine own_back (fun t k => XS.sipush Xj1013.here hx rfl (hb hby at_199) k) ?_
            show OwnGo p e below (Tj1013.setTop (mkF m 202 #[.val (.int p1), .val (.int p2), .val (.int p3), .val (.int tt), .val (.int ln), .val (.int dd), .val (.int nn), .val (.ref ba), .val (.int (p2 &&& (255 : Int32))), .val (.int (((p2.toUInt32 >>> ((8 : Int32) &&& 31).toUInt32).toInt32) &&& (255 : Int32))), .val (.int (((p2.toUInt32 >>> ((16 : Int32) &&& 31).toUInt32).toInt32) &&& (255 : Int32))), .val (.int (0 : Int32)), .val (.int (0 : Int32)), .val (.int (0 : Int32)), .val (.int (0 : Int32)), .unset, .unset, .unset, .unset] [(.int (255 : Int32)), (.int ((p2.toUInt32 >>> ((24 : Int32) &&& 31).toUInt32).toInt32))])) _
            refine own_back (fun t k => XS.iand Xj1013.here hx rfl (hb hby at_202) rfl k) ?_
            show OwnGo p e below (Tj1013.setTop (mkF m 203 #[.val (.int p1), .val (.int p2), .val (.int p3), .val (.int tt), .val (.int ln), .val (.int dd), .val (.int nn), .val (.ref ba), .val (.int (p2 &&& (255 : Int32))), .val (.int (((p2.toUInt32 >>> ((8 : Int32) &&& 31).toUInt32).toInt32) &&& (255 : Int32))), .val (.int (((p2.toUInt32 >>> ((16 : Int32) &&& 31).toUInt32).toInt32) &&& (255 : Int32))), .val (.int (0 : Int32)), .val (.int (0 : Int32)), .val (.int (0 : Int32)), .val (.int (0 : Int32)), .unset, .unset, .unset, .unset] [(.int (((p2.toUInt32 >>> ((24 : Int32) &&& 31).toUInt32).toInt32) &&& (255 : Int32)))])) _
            refine own_back (fun t k => XS.istore Xj1013.here hx rfl (hb hby at_203) rfl (l' := #[.val (.int p1), .val (.int p2), .val (.int p3), .val (.int tt), .val (.int ln), .val (.int dd), .val (.int nn), .val (.ref ba), .val (.int (p2 &&& (255 : Int32))), .val (.int (((p2.toUInt32 >>> ((8 : Int32) &&& 31).toUInt32).toInt32) &&& (255 : Int32))), .val (.int (((p2.toUInt32 >>> ((16 : Int32) &&& 31).toUInt32).toInt32) &&& (255 : Int32))), .val (.int (((p2.toUInt32 >>> ((24 : Int32) &&& 31).toUInt32).toInt32) &&& (255 : Int32))), .val (.int (0 : Int32)), .val (.int (0 : Int32)), .val (.int (0 : Int32)), .unset, .unset, .unset, .unset]) rfl k) ?_
            show OwnGo p e below (Tj1013.setTop (mkF m 205 #[.val (.int p1), .val (.int p2), .val (.int p3), .val (.int tt), .val (.int ln), .val (.int dd), .val (.int nn), .val (.ref ba), .val (.int (p2 &&& (255 : Int32))), .val (.int (((p2.toUInt32 >>> ((8 : Int32) &&& 31).toUInt32).toInt32) &&& (255 : Int32))), .val (.int (((p2.toUInt32 >>> ((16 : Int32) &&& 31).toUInt32).toInt32) &&& (255 : Int32))), .val (.int (((p2.toUInt32 >>> ((24 : Int32) &&& 31).toUInt32).toInt32) &&& (255 : Int32))), .val (.int (0 : Int32)), .val (.int (0 : Int32)), .val (.int (0 : Int32)), .unset, .unset, .unset, .unset] [])) _
            refine own_back (fun t k => XS.iloadN Xj1013.here hx rfl (hb hby at_205) rfl k) ?_
            show OwnGo p e below (Tj1013.setTop (mkF m 206 #[.val (.int p1), .val (.int p2), .val (.int p3), .val (.int tt), .val (.int ln), .val (.int dd), .val (.int nn), .val (.ref ba), .val (.int (p2 &&& (255 : Int32))), .val (.int (((p2.toUInt32 >>> ((8 : Int32) &&& 31).toUInt32).toInt32) &&& (255 : Int32))), .val (.int (((p2.toUInt32 >>> ((16 : Int32) &&& 31).toUInt32).toInt32) &&& (255 : Int32))), .val (.int (((p2.toUInt32 >>> ((24 : Int32) &&& 31).toUInt32).toInt32) &&& (255 : Int32))), .val (.int (0 : Int32)), .val (.int (0 : Int32)), .val (.int (0 : Int32)), .unset, .unset, .unset, .unset] [(.int p3)])) _
            refine own_back (fun t k => XS.sipush Xj1013.here hx rfl (hb hby at_206) k) ?_
            show OwnGo p e below (Tj1013.setTop (mkF m 209 #[.val (.int p1), .val (.int p2), .val (.int p3), .val (.int tt), .val (.int ln), .val (.int dd), .val (.int nn), .val (.ref ba), .val (.int (p2 &&& (255 : Int32))), .val (.int (((p2.toUInt32 >>> ((8 : Int32) &&& 31).toUInt32).toInt32) &&& (255 : Int32))), .val (.int (((p2.toUInt32 >>> ((16 : Int32) &&& 31).toUInt32).toInt32) &&& (255 : Int32))), .val (.int (((p2.toUInt32 >>> ((24 : Int32) &&& 31).toUInt32).toInt32) &&& (255 : Int32))), .val (.int (0 : Int32)), .val (.int (0 : Int32)), .val (.int (0 : Int32)), .unset, .unset, .unset, .unset] [(.int (255 : Int32)), (.int p3)])) _
            refine own_back (fun t k => XS.iand Xj1013.here hx rfl (hb hby at_209) rfl k) ?_
            show OwnGo p e below (Tj1013.setTop (mkF m 210 #[.val (.int p1), .val (.int p2), .val (.int p3), .val (.int tt), .val (.int ln), .val (.int dd), .val (.int nn), .val (.ref ba), .val (.int (p2 &&& (255 : Int32))), .val (.int (((p2.toUInt32 >>> ((8 : Int32) &&& 31).toUInt32).toInt32) &&& (255 : Int32))), .val (.int (((p2.toUInt32 >>> ((16 : Int32) &&& 31).toUInt32).toInt32) &&& (255 : Int32))), .val (.int (((p2.toUInt32 >>> ((24 : Int32) &&& 31).toUInt32).toInt32) &&& (255 : Int32))), .val (.int (0 : Int32)), .val (.int (0 : Int32)), .val (.int (0 : Int32)), .unset, .unset, .unset, .unset] [(.int (p3 &&& (255 : Int32)))])) _
            refine own_back (fun t k => XS.istore Xj1013.here hx rfl (hb hby at_210) rfl (l' := #[.val (.int p1), .val (.int p2), .val (.int p3), .val (.int tt), .val (.int ln), .val (.int dd), .val (.int nn), .val (.ref ba), .val (.int (p2 &&& (255 : Int32))), .val (.int (((p2.toUInt32 >>> ((8 : Int32) &&& 31).toUInt32).toInt32) &&& (255 : Int32))), .val (.int (((p2.toUInt32 >>> ((16 : Int32) &&& 31).toUInt32).toInt32) &&& (255 : Int32))), .val (.int (((p2.toUInt32 >>> ((24 : Int32) &&& 31).toUInt32).toInt32) &&& (255 : Int32))), .val (.int (p3 &&& (255 : Int32))), .val (.int (0 : Int32)), .val (.int (0 : Int32)), .unset, .unset, .unset, .unset]) rfl k) ?_
            show OwnGo p e below (Tj1013.setTop (mkF m 212 #[.val (.int p1), .val (.int p2), .val (.int p3), .val (.int tt), .val (.int ln), .val (.int dd), .val (.int nn), .val (.ref ba), .val (.int (p2 &&& (255 : Int32))), .val (.int (((p2.toUInt32 >>> ((8 : Int32) &&& 31).toUInt32).toInt32) &&& (255 : Int32))), .val (.int (((p2.toUInt32 >>> ((16 : Int32) &&& 31).toUInt32).toInt32) &&& (255 : Int32))), .val (.int (((p2.toUInt32 >>> ((24 : Int32) &&& 31).toUInt32).toInt32) &&& (255 : Int32))), .val (.int (p3 &&& (255 : Int32))), .val (.int (0 : Int32)), .val (.int (0 : Int32)), .unset, .unset, .unset, .unset] [])) _
            refine own_back (fun t k => XS.iloadN Xj1013.here hx rfl (hb hby at_212) rfl k) ?_
            show OwnGo p e below (Tj1013.setTop (mkF m 213 #[.val (.int p1), .val (.int p2), .val (.int p3), .val (.int tt), .val (.int ln), .val (.int dd), .val (.int nn), .val (.ref ba), .val (.int (p2 &&& (255 : Int32))), .val (.int (((p2.toUInt32 >>> ((8 : Int32) &&& 31).toUInt32).toInt32) &&& (255 : Int32))), .val (.int (((p2.toUInt32 >>> ((16 : Int32) &&& 31).toUInt32).toInt32) &&& (255 : Int32))), .val (.int (((p2.toUInt32 >>> ((24 : Int32) &&& 31).toUInt32).toInt32) &&& (255 : Int32))), .val (.int (p3 &&& (255 : Int32))), .val (.int (0 : Int32)), .val (.int (0 : Int32)), .unset, .unset, .unset, .unset] [(.int p3)])) _
            refine own_back (fun t k => XS.bipush Xj1013.here hx rfl (hb hby at_213) k) ?_
            show OwnGo p e below (Tj1013.setTop (mkF m 215 #[.val (.int p1), .val (.int p2), .val (.int p3), .val (.int tt), .val (.int ln), .val (.int dd), .val (.int nn), .val (.ref ba), .val (.int (p2 &&& (255 : Int32))), .val (.int (((p2.toUInt32 >>> ((8 : Int32) &&& 31).toUInt32).toInt32) &&& (255 : Int32))), .val (.int (((p2.toUInt32 >>> ((16 : Int32) &&& 31).toUInt32).toInt32) &&& (255 : Int32))), .val (.int (((p2.toUInt32 >>> ((24 : Int32) &&& 31).toUInt32).toInt32) &&& (255 : Int32))), .val (.int (p3 &&& (255 : Int32))), .val (.int (0 : Int32)), .val (.int (0 : Int32)), .unset, .unset, .unset, .unset] [(.int (8 : Int32)), (.int p3)])) _
            refine own_back (fun t k => XS.iushr Xj1013.here hx rfl (hb hby at_215) rfl k) ?_
            show OwnGo p e below (Tj1013.setTop (mkF m 216 #[.val (.int p1), .val (.int p2), .val (.int p3), .val (.int tt), .val (.int ln), .val (.int dd), .val (.int nn), .val (.ref ba), .val (.int (p2 &&& (255 : Int32))), .val (.int (((p2.toUInt32 >>> ((8 : Int32) &&& 31).toUInt32).toInt32) &&& (255 : Int32))), .val (.int (((p2.toUInt32 >>> ((16 : Int32) &&& 31).toUInt32).toInt32) &&& (255 : Int32))), .val (.int (((p2.toUInt32 >>> ((24 : Int32) &&& 31).toUInt32).toInt32) &&& (255 : Int32))), .val (.int (p3 &&& (255 : Int32))), .val (.int (0 : Int32)), .val (.int (0 : Int32)), .unset, .unset, .unset, .unset] [(.int ((p3.toUInt32 >>> ((8 : Int32) &&& 31).toUInt32).toInt32))])) _
            refine own_back (fun t k => XS.sipush Xj1013.here hx rfl (hb hby at_216) k) ?_
            show OwnGo p e below (Tj1013.setTop (mkF m 219 #[.val (.int p1), .val (.int p2), .val (.int p3), .val (.int tt), .val (.int ln), .val (.int dd), .val (.int nn), .val (.ref ba), .val (.int (p2 &&& (255 : Int32))), .val (.int (((p2.toUInt32 >>> ((8 : Int32) &&& 31).toUInt32).toInt32) &&& (255 : Int32))), .val (.int (((p2.toUInt32 >>> ((16 : Int32) &&& 31).toUInt32).toInt32) &&& (255 : Int32))), .val (.int (((p2.toUInt32 >>> ((24 : Int32) &&& 31).toUInt32).toInt32) &&& (255 : Int32))), .val (.int (p3 &&& (255 : Int32))), .val (.int (0 : Int32)), .val (.int (0 : Int32)), .unset, .unset, .unset, .unset] [(.int (255 : Int32)), (.int ((p3.toUInt32 >>> ((8 : Int32) &&& 31).toUInt32).toInt32))])) _
            refine own_back (fun t k => XS.iand Xj1013.here hx rfl (hb hby at_219) rfl k) ?_
            show OwnGo p e below (Tj1013.setTop (mkF m 220 #[.val (.int p1), .val (.int p2), .val (.int p3), .val (.int tt), .val (.int ln), .val (.int dd), .val (.int nn), .val (.ref ba), .val (.int (p2 &&& (255 : Int32))), .val (.int (((p2.toUInt32 >>> ((8 : Int32) &&& 31).toUInt32).toInt32) &&& (255 : Int32))), .val (.int (((p2.toUInt32 >>> ((16 : Int32) &&& 31).toUInt32).toInt32) &&& (255 : Int32))), .val (.int (((p2.toUInt32 >>> ((24 : Int32) &&& 31).toUInt32).toInt32) &&& (255 : Int32))), .val (.int (p3 &&& (255 : Int32))), .val (.int (0 : Int32)), .val (.int (0 : Int32)), .unset, .unset, .unset, .unset] [(.int (((p3.toUInt32 >>> ((8 : Int32) &&& 31).toUInt32).toInt32) &&& (255 : Int32)))])) _
            refine own_back (fun t k => XS.istore Xj1013.here hx rfl (hb hby at_220) rfl (l' := #[.val (.int p1), .val (.int p2), .val (.int p3), .val (.int tt), .val (.int ln), .val (.int dd), .val (.int nn), .val (.ref ba), .val (.int (p2 &&& (255 : Int32))), .val (.int (((p2.toUInt32 >>> ((8 : Int32) &&& 31).toUInt32).toInt32) &&& (255 : Int32))), .val (.int (((p2.toUInt32 >>> ((16 : Int32) &&& 31).toUInt32).toInt32) &&& (255 : Int32))), .val (.int (((p2.toUInt32 >>> ((24 : Int32) &&& 31).toUInt32).toInt32) &&& (255 : Int32))), .val (.int (p3 &&& (255 : Int32))), .val (.int (((p3.toUInt32 >>> ((8 : Int32) &&& 31).toUInt32).toInt32) &&& (255 : Int32))), .val (.int (0 : Int32)), .unset, .unset, .unset, .unset]) rfl k) ?_
            show OwnGo p e below (Tj1013.setTop (mkF m 222 #[.val (.int p1), .val (.int p2), .val (.int p3), .val (.int tt), .val (.int ln), .val (.int dd), .val (.int nn), .val (.ref ba), .val (.int (p2 &&& (255 : Int32))), .val (.int (((p2.toUInt32 >>> ((8 : Int32) &&& 31).toUInt32).toInt32) &&& (255 : Int32))), .val (.int (((p2.toUInt32 >>> ((16 : Int32) &&& 31).toUInt32).toInt32) &&& (255 : Int32))), .val (.int (((p2.toUInt32 >>> ((24 : Int32) &&& 31).toUInt32).toInt32) &&& (255 : Int32))), .val (.int (p3 &&& (255 : Int32))), .val (.int (((p3.toUInt32 >>> ((8 : Int32) &&& 31).toUInt32).toInt32) &&& (255 : Int32))), .val (.int (0 : Int32)), .unset, .unset, .unset, .unset] [])) _
            refine own_back (fun t k => XS.iloadN Xj1013.here hx rfl (hb hby at_222) rfl k) ?_
            show OwnGo p e below (Tj1013.setTop (mkF m 223 #[.val (.int p1), .val (.int p2), .val (.int p3), .val (.int tt), .val (.int ln), .val (.int dd), .val (.int nn), .val (.ref ba), .val (.int (p2 &&& (255 : Int32))), .val (.int (((p2.toUInt32 >>> ((8 : Int32) &&& 31).toUInt32).toInt32) &&& (255 : Int32))), .val (.int (((p2.toUInt32 >>> ((16 : Int32) &&& 31).toUInt32).toInt32) &&& (255 : Int32))), .val (.int (((p2.toUInt32 >>> ((24 : Int32) &&& 31).toUInt32).toInt32) &&& (255 : Int32))), .val (.int (p3 &&& (255 : Int32))), .val (.int (((p3.toUInt32 >>> ((8 : Int32) &&& 31).toUInt32).toInt32) &&& (255 : Int32))), .val (.int (0 : Int32)), .unset, .unset, .unset, .unset] [(.int p3)])) _
            refine own_back (fun t k => XS.bipush Xj1013.here hx rfl (hb hby at_223) k) ?_
            show OwnGo p e below (Tj1013.setTop (mkF m 225 #[.val (.int p1), .val (.int p2), .val (.int p3), .val (.int tt), .val (.int ln), .val (.int dd), .val (.int nn), .val (.ref ba), .val (.int (p2 &&& (255 : Int32))), .val (.int (((p2.toUInt32 >>> ((8 : Int32) &&& 31).toUInt32).toInt32) &&& (255 : Int32))), .val (.int (((p2.toUInt32 >>> ((16 : Int32) &&& 31).toUInt32).toInt32) &&& (255 : Int32))), .val (.int (((p2.toUInt32 >>> ((24 : Int32) &&& 31).toUInt32).toInt32) &&& (255 : Int32))), .val (.int (p3 &&& (255 : Int32))), .val (.int (((p3.toUInt32 >>> ((8 : Int32) &&& 31).toUInt32).toInt32) &&& (255 : Int32))), .val (.int (0 : Int32)), .unset, .unset, .unset, .unset] [(.int (16 : Int32)), (.int p3)])) _
            refine own_back (fun t k => XS.iushr Xj1013.here hx rfl (hb hby at_225) rfl k) ?_
            show OwnGo p e below (Tj1013.setTop (mkF m 226 #[.val (.int p1), .val (.int p2), .val (.int p3), .val (.int tt), .val (.int ln), .val (.int dd), .val (.int nn), .val (.ref ba), .val (.int (p2 &&& (255 : Int32))), .val (.int (((p2.toUInt32 >>> ((8 : Int32) &&& 31).toUInt32).toInt32) &&& (255 : Int32))), .val (.int (((p2.toUInt32 >>> ((16 : Int32) &&& 31).toUInt32).toInt32) &&& (255 : Int32))), .val (.int (((p2.toUInt32 >>> ((24 : Int32) &&& 31).toUInt32).toInt32) &&& (255 : Int32))), .val (.int (p3 &&& (255 : Int32))), .val (.int (((p3.toUInt32 >>> ((8 : Int32) &&& 31).toUInt32).toInt32) &&& (255 : Int32))), .val (.int (0 : Int32)), .unset, .unset, .unset, .unset] [(.int ((p3.toUInt32 >>> ((16 : Int32) &&& 31).toUInt32).toInt32))])) _
            refine own_back (fun t k => XS.sipush Xj1013.here hx rfl (hb hby at_226) k) ?_
            show OwnGo p e below (Tj1013.setTop (mkF m 229 #[.val (.int p1), .val (.int p2), .val (.int p3), .val (.int tt), .val (.int ln), .val (.int dd), .val (.int nn), .val (.ref ba), .val (.int (p2 &&& (255 : Int32))), .val (.int (((p2.toUInt32 >>> ((8 : Int32) &&& 31).toUInt32).toInt32) &&& (255 : Int32))), .val (.int (((p2.toUInt32 >>> ((16 : Int32) &&& 31).toUInt32).toInt32) &&& (255 : Int32))), .val (.int (((p2.toUInt32 >>> ((24 : Int32) &&& 31).toUInt32).toInt32) &&& (255 : Int32))), .val (.int (p3 &&& (255 : Int32))), .val (.int (((p3.toUInt32 >>> ((8 : Int32) &&& 31).toUInt32).toInt32) &&& (255 : Int32))), .val (.int (0 : Int32)), .unset, .unset, .unset, .unset] [(.int (255 : Int32)), (.int ((p3.toUInt32 >>> ((16 : Int32) &&& 31).toUInt32).toInt32))])) _
            refine own_back (fun t k => XS.iand Xj1013.here hx rfl (hb hby at_229) rfl k) ?_
            show OwnGo p e below (Tj1013.setTop (mkF m 230 #[.val (.int p1), .val (.int p2), .val (.int p3), .val (.int tt), .val (.int ln), .val (.int dd), .val (.int nn), .val (.ref ba), .val (.int (p2 &&& (255 : Int32))), .val (.int (((p2.toUInt32 >>> ((8 : Int32) &&& 31).toUInt32).toInt32) &&& (255 : Int32))), .val (.int (((p2.toUInt32 >>> ((16 : Int32) &&& 31).toUInt32).toInt32) &&& (255 : Int32))), .val (.int (((p2.toUInt32 >>> ((24 : Int32) &&& 31).toUInt32).toInt32) &&& (255 : Int32))), .val (.int (p3 &&& (255 : Int32))), .val (.int (((p3.toUInt32 >>> ((8 : Int32) &&& 31).toUInt32).toInt32) &&& (255 : Int32))), .val (.int (0 : Int32)), .unset, .unset, .unset, .unset] [(.int (((p3.toUInt32 >>> ((16 : Int32) &&& 31).toUInt32).toInt32) &&& (255 : Int32)))])) _
            refine own_back (fun t k => XS.istore Xj1013.here hx rfl (hb hby at_230) rfl (l' := #[.val (.int p1), .val (.int p2), .val (.int p3), .val (.int tt), .val (.int ln), .val (.int dd), .val (.int nn), .val (.ref ba), .val (.int (p2 &&& (255 : Int32))), .val (.int (((p2.toUInt32 >>> ((8 : Int32) &&& 31).toUInt32).toInt32) &&& (255 : Int32))), .val (.int (((p2.toUInt32 >>> ((16 : Int32) &&& 31).toUInt32).toInt32) &&& (255 : Int32))), .val (.int (((p2.toUInt32 >>> ((24 : Int32) &&& 31).toUInt32).toInt32) &&& (255 : Int32))), .val (.int (p3 &&& (255 : Int32))), .val (.int (((p3.toUInt32 >>> ((8 : Int32) &&& 31).toUInt32).toInt32) &&& (255 : Int32))), .val (.int (((p3.toUInt32 >>> ((16 : Int32) &&& 31).toUInt32).toInt32) &&& (255 : Int32))), .unset, .unset, .unset, .unset]) rfl k) ?_
            show OwnGo p e below (Tj1013.setTop (mkF m 232 #[.val (.int p1), .val (.int p2), .val (.int p3), .val (.int tt), .val (.int ln), .val (.int dd), .val (.int nn), .val (.ref ba), .val (.int (p2 &&& (255 : Int32))), .val (.int (((p2.toUInt32 >>> ((8 : Int32) &&& 31).toUInt32).toInt32) &&& (255 : Int32))), .val (.int (((p2.toUInt32 >>> ((16 : Int32) &&& 31).toUInt32).toInt32) &&& (255 : Int32))), .val (.int (((p2.toUInt32 >>> ((24 : Int32) &&& 31).toUInt32).toInt32) &&& (255 : Int32))), .val (.int (p3 &&& (255 : Int32))), .val (.int (((p3.toUInt32 >>> ((8 : Int32) &&& 31).toUInt32).toInt32) &&& (255 : Int32))), .val (.int (((p3.toUInt32 >>> ((16 : Int32) &&& 31).toUInt32).toInt32) &&& (255 : Int32))), .unset, .unset, .unset, .unset] [])) _
            exact tl232_1014 _ _ (p2 &&& (255 : Int32)) (((p2.toUInt32 >>> ((8 : Int32) &&& 31).toUInt32).toInt32) &&& (255 : Int32)) (((p2.toUInt32 >>> ((16 : Int32) &&& 31).toUInt32).toInt32) &&& (255 : Int32)) (((p2.toUInt32 >>> ((24 : Int32) &&& 31).toUInt32).toInt32) &&& (255 : Int32)) (p3 &&& (255 : Int32)) (((p3.toUInt32 >>> ((8 : Int32) &&& 31).toUInt32).toInt32) &&& (255 : Int32)) (((p3.toUInt32 >>> ((16 : Int32) &&& 31).toUInt32).toInt32) &&& (255 : Int32)) ⟨_, _, _, Xj1013, ej1013, hSj1013, hkj1013, hZj1013, hownj1013, CRj1013, Oj1013, KPj1013, Zj1013, Nj1013⟩ hs1013_0 (own_allS (own_m255 _) (own_allS (own_m255 _) (own_allS (own_m255 _) (own_allS (own_m255 _) (own_allS (own_m255 _) (own_allS (own_m255 _) (own_allS (own_m255 _) own_all0)))))))
        by_cases hc54_1213 : tt = (0 : Int32)
        · refine own_back (fun t k => XS.ifYes Xj1012.here hx rfl (pc0 := 54) (pc' := 100) rfl (hb hby at_54) rfl (Jvm.Free.XT.i0_eq_t hc54_1213) (by decide) (by decide) k) ?_
          show OwnGo p e below (Tj1012.setTop (mkF m 100 #[.val (.int p1), .val (.int p2), .val (.int p3), .val (.int tt), .val (.int ln), .val (.int dd), .val (.int nn), .unset, .unset, .unset, .unset, .unset, .unset, .unset, .unset, .unset, .unset, .unset, .unset] [])) _
          refine own_back (fun t k => XS.bipush Xj1012.here hx rfl (hb hby at_100) k) ?_
          show OwnGo p e below (Tj1012.setTop (mkF m 102 #[.val (.int p1), .val (.int p2), .val (.int p3), .val (.int tt), .val (.int ln), .val (.int dd), .val (.int nn), .unset, .unset, .unset, .unset, .unset, .unset, .unset, .unset, .unset, .unset, .unset, .unset] [(.int (7 : Int32))])) _
          obtain ⟨T1214, h1214, k1214, X1214, e1214, E1214, A1214, st1214⟩ := newP Xj1012 hx hZj1012 (hw _ (List.mem_of_getElem? (i := 0) rfl)) ej1012 (g := (mkF m 102 #[.val (.int p1), .val (.int p2), .val (.int p3), .val (.int tt), .val (.int ln), .val (.int dd), .val (.int nn), .unset, .unset, .unset, .unset, .unset, .unset, .unset, .unset, .unset, .unset, .unset, .unset] [(.int (7 : Int32))])) rfl (hb hby at_102) rfl (by decide) (cap := 7) (by decide) (by decide) (Nat.le_of_ble_eq_true rfl) (Nat.le_of_ble_eq_true rfl)
          obtain ⟨b1214, g1214⟩ : ∃ z, z = hj1012.size := ⟨_, rfl⟩
          have ge1215 : n0 ≤ b1214 := Nat.le_trans Zj1012 (Nat.le_of_eq g1214.symm)
          have sz1216 : h0.size ≤ b1214 := Nat.le_trans KPj1012.1 (Nat.le_of_eq g1214.symm)
          rw [← g1214] at A1214 st1214
          have O1217 := Oj1012.ext E1214
          have KP1218 := KPj1012.ext E1214
          have Zs1219 := Nat.le_trans Zj1012 E1214.1
          have CR1220 := CRj1012.trans (CHr.ext E1214 CRj1012.1)
          have hk1221 := Nat.le_trans hkj1012 E1214.1
          have V1222 : Arv Z h1214 b1214 k1214 .char (7 : Int32) [(.int (0 : Int32)), (.int (0 : Int32)), (.int (0 : Int32)), (.int (0 : Int32)), (.int (0 : Int32)), (.int (0 : Int32)), (.int (0 : Int32))] (.int (0 : Int32)) := (Arv.new A1214 (by decide)).pad (pad_rep [] (.int (0 : Int32)) 7)
          have sf1223 := Safe.ext E1214 CRj1012.1 (Safe.new (Nat.le_of_eq g1214.symm))
          refine own_back st1214 ?_
          show OwnGo p e below (T1214.setTop (mkF m 104 #[.val (.int p1), .val (.int p2), .val (.int p3), .val (.int tt), .val (.int ln), .val (.int dd), .val (.int nn), .unset, .unset, .unset, .unset, .unset, .unset, .unset, .unset, .unset, .unset, .unset, .unset] [(.ref b1214)])) _
          refine own_back (fun t k => XS.dup X1214.here hx rfl (hb hby at_104) rfl rfl k) ?_
          show OwnGo p e below (T1214.setTop (mkF m 105 #[.val (.int p1), .val (.int p2), .val (.int p3), .val (.int tt), .val (.int ln), .val (.int dd), .val (.int nn), .unset, .unset, .unset, .unset, .unset, .unset, .unset, .unset, .unset, .unset, .unset, .unset] [(.ref b1214), (.ref b1214)])) _
          refine own_back (fun t k => XS.iconst X1214.here hx rfl (hb hby at_105) k) ?_
          show OwnGo p e below (T1214.setTop (mkF m 106 #[.val (.int p1), .val (.int p2), .val (.int p3), .val (.int tt), .val (.int ln), .val (.int dd), .val (.int nn), .unset, .unset, .unset, .unset, .unset, .unset, .unset, .unset, .unset, .unset, .unset, .unset] [(.int (0 : Int32)), (.ref b1214), (.ref b1214)])) _
          refine own_back (fun t k => XS.bipush X1214.here hx rfl (hb hby at_106) k) ?_
          show OwnGo p e below (T1214.setTop (mkF m 108 #[.val (.int p1), .val (.int p2), .val (.int p3), .val (.int tt), .val (.int ln), .val (.int dd), .val (.int nn), .unset, .unset, .unset, .unset, .unset, .unset, .unset, .unset, .unset, .unset, .unset, .unset] [(.int (112 : Int32)), (.int (0 : Int32)), (.ref b1214), (.ref b1214)])) _
          obtain ⟨c1224, A1224, q1224, S1224, M1224, H1224, U1224⟩ := id V1222
          obtain ⟨T1225, h1225, X1225, e1225, W1225, st1225⟩ := stC X1214 hx hZj1012 e1214 A1224 (j := (0 : Int32)) (inb_of S1224 ⟨by decide, by decide⟩) (g := (mkF m 108 #[.val (.int p1), .val (.int p2), .val (.int p3), .val (.int tt), .val (.int ln), .val (.int dd), .val (.int nn), .unset, .unset, .unset, .unset, .unset, .unset, .unset, .unset, .unset, .unset, .unset, .unset] [(.int (112 : Int32)), (.int (0 : Int32)), (.ref b1214), (.ref b1214)])) rfl rfl (hb hby at_108)
          have O1226 := O1217.wr W1225 ge1215
          have KP1227 := KP1218.wr W1225 (Or.inr sz1216)
          have Zs1228 := Nat.le_trans Zs1219 (Keep.of_wr W1225).1
          have CR1229 := CR1220.trans (CHr.wr W1225 sf1223 CR1220.1)
          have hk1230 := Nat.le_trans hk1221 (Keep.of_wr W1225).1
          have f1231 := (Safe.wr W1225 sf1223 CR1220.1 sf1223)
          have V1232 : Arv Z h1225 b1214 k1214 .char (7 : Int32) [(.int (nar .char (112 : Int32))), (.int (0 : Int32)), (.int (0 : Int32)), (.int (0 : Int32)), (.int (0 : Int32)), (.int (0 : Int32)), (.int (0 : Int32))] (.int (0 : Int32)) := Arv.set A1224 q1224 S1224 M1224 H1224 U1224 (fits_nar_char _) W1225 0 rfl (Nat.le_of_ble_eq_true rfl)
          have N1233 := Fr.snoc X1225 Nj1012 ge1215
          refine own_back st1225 ?_
          show OwnGo p e below (T1225.setTop (mkF m 109 #[.val (.int p1), .val (.int p2), .val (.int p3), .val (.int tt), .val (.int ln), .val (.int dd), .val (.int nn), .unset, .unset, .unset, .unset, .unset, .unset, .unset, .unset, .unset, .unset, .unset, .unset] [(.ref b1214)])) _
          refine own_back (fun t k => XS.dup X1225.here hx rfl (hb hby at_109) rfl rfl k) ?_
          show OwnGo p e below (T1225.setTop (mkF m 110 #[.val (.int p1), .val (.int p2), .val (.int p3), .val (.int tt), .val (.int ln), .val (.int dd), .val (.int nn), .unset, .unset, .unset, .unset, .unset, .unset, .unset, .unset, .unset, .unset, .unset, .unset] [(.ref b1214), (.ref b1214)])) _
          refine own_back (fun t k => XS.iconst X1225.here hx rfl (hb hby at_110) k) ?_
          show OwnGo p e below (T1225.setTop (mkF m 111 #[.val (.int p1), .val (.int p2), .val (.int p3), .val (.int tt), .val (.int ln), .val (.int dd), .val (.int nn), .unset, .unset, .unset, .unset, .unset, .unset, .unset, .unset, .unset, .unset, .unset, .unset] [(.int (1 : Int32)), (.ref b1214), (.ref b1214)])) _
          refine own_back (fun t k => XS.bipush X1225.here hx rfl (hb hby at_111) k) ?_
          show OwnGo p e below (T1225.setTop (mkF m 113 #[.val (.int p1), .val (.int p2), .val (.int p3), .val (.int tt), .val (.int ln), .val (.int dd), .val (.int nn), .unset, .unset, .unset, .unset, .unset, .unset, .unset, .unset, .unset, .unset, .unset, .unset] [(.int (114 : Int32)), (.int (1 : Int32)), (.ref b1214), (.ref b1214)])) _
          obtain ⟨c1234, A1234, q1234, S1234, M1234, H1234, U1234⟩ := id V1232
          obtain ⟨T1235, h1235, X1235, e1235, W1235, st1235⟩ := stC X1225 hx hZj1012 e1225 A1234 (j := (1 : Int32)) (inb_of S1234 ⟨by decide, by decide⟩) (g := (mkF m 113 #[.val (.int p1), .val (.int p2), .val (.int p3), .val (.int tt), .val (.int ln), .val (.int dd), .val (.int nn), .unset, .unset, .unset, .unset, .unset, .unset, .unset, .unset, .unset, .unset, .unset, .unset] [(.int (114 : Int32)), (.int (1 : Int32)), (.ref b1214), (.ref b1214)])) rfl rfl (hb hby at_113)
          have O1236 := O1226.wr W1235 ge1215
          have KP1237 := KP1227.wr W1235 (Or.inr sz1216)
          have Zs1238 := Nat.le_trans Zs1228 (Keep.of_wr W1235).1
          have CR1239 := CR1229.trans (CHr.wr W1235 f1231 CR1229.1)
          have hk1240 := Nat.le_trans hk1230 (Keep.of_wr W1235).1
          have f1241 := (Safe.wr W1235 f1231 CR1229.1 f1231)
          have V1242 : Arv Z h1235 b1214 k1214 .char (7 : Int32) [(.int (nar .char (112 : Int32))), (.int (nar .char (114 : Int32))), (.int (0 : Int32)), (.int (0 : Int32)), (.int (0 : Int32)), (.int (0 : Int32)), (.int (0 : Int32))] (.int (0 : Int32)) := Arv.set A1234 q1234 S1234 M1234 H1234 U1234 (fits_nar_char _) W1235 1 rfl (Nat.le_of_ble_eq_true rfl)
          have N1243 := Fr.snoc X1235 N1233 ge1215
          refine own_back st1235 ?_
          show OwnGo p e below (T1235.setTop (mkF m 114 #[.val (.int p1), .val (.int p2), .val (.int p3), .val (.int tt), .val (.int ln), .val (.int dd), .val (.int nn), .unset, .unset, .unset, .unset, .unset, .unset, .unset, .unset, .unset, .unset, .unset, .unset] [(.ref b1214)])) _
          refine own_back (fun t k => XS.dup X1235.here hx rfl (hb hby at_114) rfl rfl k) ?_
          show OwnGo p e below (T1235.setTop (mkF m 115 #[.val (.int p1), .val (.int p2), .val (.int p3), .val (.int tt), .val (.int ln), .val (.int dd), .val (.int nn), .unset, .unset, .unset, .unset, .unset, .unset, .unset, .unset, .unset, .unset, .unset, .unset] [(.ref b1214), (.ref b1214)])) _
          refine own_back (fun t k => XS.iconst X1235.here hx rfl (hb hby at_115) k) ?_
          show OwnGo p e below (T1235.setTop (mkF m 116 #[.val (.int p1), .val (.int p2), .val (.int p3), .val (.int tt), .val (.int ln), .val (.int dd), .val (.int nn), .unset, .unset, .unset, .unset, .unset, .unset, .unset, .unset, .unset, .unset, .unset, .unset] [(.int (2 : Int32)), (.ref b1214), (.ref b1214)])) _
          refine own_back (fun t k => XS.bipush X1235.here hx rfl (hb hby at_116) k) ?_
          show OwnGo p e below (T1235.setTop (mkF m 118 #[.val (.int p1), .val (.int p2), .val (.int p3), .val (.int tt), .val (.int ln), .val (.int dd), .val (.int nn), .unset, .unset, .unset, .unset, .unset, .unset, .unset, .unset, .unset, .unset, .unset, .unset] [(.int (105 : Int32)), (.int (2 : Int32)), (.ref b1214), (.ref b1214)])) _
          obtain ⟨c1244, A1244, q1244, S1244, M1244, H1244, U1244⟩ := id V1242
          obtain ⟨T1245, h1245, X1245, e1245, W1245, st1245⟩ := stC X1235 hx hZj1012 e1235 A1244 (j := (2 : Int32)) (inb_of S1244 ⟨by decide, by decide⟩) (g := (mkF m 118 #[.val (.int p1), .val (.int p2), .val (.int p3), .val (.int tt), .val (.int ln), .val (.int dd), .val (.int nn), .unset, .unset, .unset, .unset, .unset, .unset, .unset, .unset, .unset, .unset, .unset, .unset] [(.int (105 : Int32)), (.int (2 : Int32)), (.ref b1214), (.ref b1214)])) rfl rfl (hb hby at_118)
          have O1246 := O1236.wr W1245 ge1215
          have KP1247 := KP1237.wr W1245 (Or.inr sz1216)
          have Zs1248 := Nat.le_trans Zs1238 (Keep.of_wr W1245).1
          have CR1249 := CR1239.trans (CHr.wr W1245 f1241 CR1239.1)
          have hk1250 := Nat.le_trans hk1240 (Keep.of_wr W1245).1
          have f1251 := (Safe.wr W1245 f1241 CR1239.1 f1241)
          have V1252 : Arv Z h1245 b1214 k1214 .char (7 : Int32) [(.int (nar .char (112 : Int32))), (.int (nar .char (114 : Int32))), (.int (nar .char (105 : Int32))), (.int (0 : Int32)), (.int (0 : Int32)), (.int (0 : Int32)), (.int (0 : Int32))] (.int (0 : Int32)) := Arv.set A1244 q1244 S1244 M1244 H1244 U1244 (fits_nar_char _) W1245 2 rfl (Nat.le_of_ble_eq_true rfl)
          have N1253 := Fr.snoc X1245 N1243 ge1215
          refine own_back st1245 ?_
          show OwnGo p e below (T1245.setTop (mkF m 119 #[.val (.int p1), .val (.int p2), .val (.int p3), .val (.int tt), .val (.int ln), .val (.int dd), .val (.int nn), .unset, .unset, .unset, .unset, .unset, .unset, .unset, .unset, .unset, .unset, .unset, .unset] [(.ref b1214)])) _
          refine own_back (fun t k => XS.dup X1245.here hx rfl (hb hby at_119) rfl rfl k) ?_
          show OwnGo p e below (T1245.setTop (mkF m 120 #[.val (.int p1), .val (.int p2), .val (.int p3), .val (.int tt), .val (.int ln), .val (.int dd), .val (.int nn), .unset, .unset, .unset, .unset, .unset, .unset, .unset, .unset, .unset, .unset, .unset, .unset] [(.ref b1214), (.ref b1214)])) _
          refine own_back (fun t k => XS.iconst X1245.here hx rfl (hb hby at_120) k) ?_
          show OwnGo p e below (T1245.setTop (mkF m 121 #[.val (.int p1), .val (.int p2), .val (.int p3), .val (.int tt), .val (.int ln), .val (.int dd), .val (.int nn), .unset, .unset, .unset, .unset, .unset, .unset, .unset, .unset, .unset, .unset, .unset, .unset] [(.int (3 : Int32)), (.ref b1214), (.ref b1214)])) _
          refine own_back (fun t k => XS.bipush X1245.here hx rfl (hb hby at_121) k) ?_
          show OwnGo p e below (T1245.setTop (mkF m 123 #[.val (.int p1), .val (.int p2), .val (.int p3), .val (.int tt), .val (.int ln), .val (.int dd), .val (.int nn), .unset, .unset, .unset, .unset, .unset, .unset, .unset, .unset, .unset, .unset, .unset, .unset] [(.int (99 : Int32)), (.int (3 : Int32)), (.ref b1214), (.ref b1214)])) _
          obtain ⟨c1254, A1254, q1254, S1254, M1254, H1254, U1254⟩ := id V1252
          obtain ⟨T1255, h1255, X1255, e1255, W1255, st1255⟩ := stC X1245 hx hZj1012 e1245 A1254 (j := (3 : Int32)) (inb_of S1254 ⟨by decide, by decide⟩) (g := (mkF m 123 #[.val (.int p1), .val (.int p2), .val (.int p3), .val (.int tt), .val (.int ln), .val (.int dd), .val (.int nn), .unset, .unset, .unset, .unset, .unset, .unset, .unset, .unset, .unset, .unset, .unset, .unset] [(.int (99 : Int32)), (.int (3 : Int32)), (.ref b1214), (.ref b1214)])) rfl rfl (hb hby at_123)
          have O1256 := O1246.wr W1255 ge1215
          have KP1257 := KP1247.wr W1255 (Or.inr sz1216)
          have Zs1258 := Nat.le_trans Zs1248 (Keep.of_wr W1255).1
          have CR1259 := CR1249.trans (CHr.wr W1255 f1251 CR1249.1)
          have hk1260 := Nat.le_trans hk1250 (Keep.of_wr W1255).1
          have f1261 := (Safe.wr W1255 f1251 CR1249.1 f1251)
          have V1262 : Arv Z h1255 b1214 k1214 .char (7 : Int32) [(.int (nar .char (112 : Int32))), (.int (nar .char (114 : Int32))), (.int (nar .char (105 : Int32))), (.int (nar .char (99 : Int32))), (.int (0 : Int32)), (.int (0 : Int32)), (.int (0 : Int32))] (.int (0 : Int32)) := Arv.set A1254 q1254 S1254 M1254 H1254 U1254 (fits_nar_char _) W1255 3 rfl (Nat.le_of_ble_eq_true rfl)
          have N1263 := Fr.snoc X1255 N1253 ge1215
          refine own_back st1255 ?_
          show OwnGo p e below (T1255.setTop (mkF m 124 #[.val (.int p1), .val (.int p2), .val (.int p3), .val (.int tt), .val (.int ln), .val (.int dd), .val (.int nn), .unset, .unset, .unset, .unset, .unset, .unset, .unset, .unset, .unset, .unset, .unset, .unset] [(.ref b1214)])) _
          refine own_back (fun t k => XS.dup X1255.here hx rfl (hb hby at_124) rfl rfl k) ?_
          show OwnGo p e below (T1255.setTop (mkF m 125 #[.val (.int p1), .val (.int p2), .val (.int p3), .val (.int tt), .val (.int ln), .val (.int dd), .val (.int nn), .unset, .unset, .unset, .unset, .unset, .unset, .unset, .unset, .unset, .unset, .unset, .unset] [(.ref b1214), (.ref b1214)])) _
          refine own_back (fun t k => XS.iconst X1255.here hx rfl (hb hby at_125) k) ?_
          show OwnGo p e below (T1255.setTop (mkF m 126 #[.val (.int p1), .val (.int p2), .val (.int p3), .val (.int tt), .val (.int ln), .val (.int dd), .val (.int nn), .unset, .unset, .unset, .unset, .unset, .unset, .unset, .unset, .unset, .unset, .unset, .unset] [(.int (4 : Int32)), (.ref b1214), (.ref b1214)])) _
          refine own_back (fun t k => XS.bipush X1255.here hx rfl (hb hby at_126) k) ?_
          show OwnGo p e below (T1255.setTop (mkF m 128 #[.val (.int p1), .val (.int p2), .val (.int p3), .val (.int tt), .val (.int ln), .val (.int dd), .val (.int nn), .unset, .unset, .unset, .unset, .unset, .unset, .unset, .unset, .unset, .unset, .unset, .unset] [(.int (101 : Int32)), (.int (4 : Int32)), (.ref b1214), (.ref b1214)])) _
          obtain ⟨c1264, A1264, q1264, S1264, M1264, H1264, U1264⟩ := id V1262
          obtain ⟨T1265, h1265, X1265, e1265, W1265, st1265⟩ := stC X1255 hx hZj1012 e1255 A1264 (j := (4 : Int32)) (inb_of S1264 ⟨by decide, by decide⟩) (g := (mkF m 128 #[.val (.int p1), .val (.int p2), .val (.int p3), .val (.int tt), .val (.int ln), .val (.int dd), .val (.int nn), .unset, .unset, .unset, .unset, .unset, .unset, .unset, .unset, .unset, .unset, .unset, .unset] [(.int (101 : Int32)), (.int (4 : Int32)), (.ref b1214), (.ref b1214)])) rfl rfl (hb hby at_128)
          have O1266 := O1256.wr W1265 ge1215
          have KP1267 := KP1257.wr W1265 (Or.inr sz1216)
          have Zs1268 := Nat.le_trans Zs1258 (Keep.of_wr W1265).1
          have CR1269 := CR1259.trans (CHr.wr W1265 f1261 CR1259.1)
          have hk1270 := Nat.le_trans hk1260 (Keep.of_wr W1265).1
          have f1271 := (Safe.wr W1265 f1261 CR1259.1 f1261)
          have V1272 : Arv Z h1265 b1214 k1214 .char (7 : Int32) [(.int (nar .char (112 : Int32))), (.int (nar .char (114 : Int32))), (.int (nar .char (105 : Int32))), (.int (nar .char (99 : Int32))), (.int (nar .char (101 : Int32))), (.int (0 : Int32)), (.int (0 : Int32))] (.int (0 : Int32)) := Arv.set A1264 q1264 S1264 M1264 H1264 U1264 (fits_nar_char _) W1265 4 rfl (Nat.le_of_ble_eq_true rfl)
          have N1273 := Fr.snoc X1265 N1263 ge1215
          refine own_back st1265 ?_
          show OwnGo p e below (T1265.setTop (mkF m 129 #[.val (.int p1), .val (.int p2), .val (.int p3), .val (.int tt), .val (.int ln), .val (.int dd), .val (.int nn), .unset, .unset, .unset, .unset, .unset, .unset, .unset, .unset, .unset, .unset, .unset, .unset] [(.ref b1214)])) _
          refine own_back (fun t k => XS.dup X1265.here hx rfl (hb hby at_129) rfl rfl k) ?_
          show OwnGo p e below (T1265.setTop (mkF m 130 #[.val (.int p1), .val (.int p2), .val (.int p3), .val (.int tt), .val (.int ln), .val (.int dd), .val (.int nn), .unset, .unset, .unset, .unset, .unset, .unset, .unset, .unset, .unset, .unset, .unset, .unset] [(.ref b1214), (.ref b1214)])) _
          refine own_back (fun t k => XS.iconst X1265.here hx rfl (hb hby at_130) k) ?_
          show OwnGo p e below (T1265.setTop (mkF m 131 #[.val (.int p1), .val (.int p2), .val (.int p3), .val (.int tt), .val (.int ln), .val (.int dd), .val (.int nn), .unset, .unset, .unset, .unset, .unset, .unset, .unset, .unset, .unset, .unset, .unset, .unset] [(.int (5 : Int32)), (.ref b1214), (.ref b1214)])) _
          refine own_back (fun t k => XS.bipush X1265.here hx rfl (hb hby at_131) k) ?_
          show OwnGo p e below (T1265.setTop (mkF m 133 #[.val (.int p1), .val (.int p2), .val (.int p3), .val (.int tt), .val (.int ln), .val (.int dd), .val (.int nn), .unset, .unset, .unset, .unset, .unset, .unset, .unset, .unset, .unset, .unset, .unset, .unset] [(.int (120 : Int32)), (.int (5 : Int32)), (.ref b1214), (.ref b1214)])) _
          obtain ⟨c1274, A1274, q1274, S1274, M1274, H1274, U1274⟩ := id V1272
          obtain ⟨T1275, h1275, X1275, e1275, W1275, st1275⟩ := stC X1265 hx hZj1012 e1265 A1274 (j := (5 : Int32)) (inb_of S1274 ⟨by decide, by decide⟩) (g := (mkF m 133 #[.val (.int p1), .val (.int p2), .val (.int p3), .val (.int tt), .val (.int ln), .val (.int dd), .val (.int nn), .unset, .unset, .unset, .unset, .unset, .unset, .unset, .unset, .unset, .unset, .unset, .unset] [(.int (120 : Int32)), (.int (5 : Int32)), (.ref b1214), (.ref b1214)])) rfl rfl (hb hby at_133)
          have O1276 := O1266.wr W1275 ge1215
          have KP1277 := KP1267.wr W1275 (Or.inr sz1216)
          have Zs1278 := Nat.le_trans Zs1268 (Keep.of_wr W1275).1
          have CR1279 := CR1269.trans (CHr.wr W1275 f1271 CR1269.1)
          have hk1280 := Nat.le_trans hk1270 (Keep.of_wr W1275).1
          have f1281 := (Safe.wr W1275 f1271 CR1269.1 f1271)
          have V1282 : Arv Z h1275 b1214 k1214 .char (7 : Int32) [(.int (nar .char (112 : Int32))), (.int (nar .char (114 : Int32))), (.int (nar .char (105 : Int32))), (.int (nar .char (99 : Int32))), (.int (nar .char (101 : Int32))), (.int (nar .char (120 : Int32))), (.int (0 : Int32))] (.int (0 : Int32)) := Arv.set A1274 q1274 S1274 M1274 H1274 U1274 (fits_nar_char _) W1275 5 rfl (Nat.le_of_ble_eq_true rfl)
          have N1283 := Fr.snoc X1275 N1273 ge1215
          refine own_back st1275 ?_
          show OwnGo p e below (T1275.setTop (mkF m 134 #[.val (.int p1), .val (.int p2), .val (.int p3), .val (.int tt), .val (.int ln), .val (.int dd), .val (.int nn), .unset, .unset, .unset, .unset, .unset, .unset, .unset, .unset, .unset, .unset, .unset, .unset] [(.ref b1214)])) _
          refine own_back (fun t k => XS.dup X1275.here hx rfl (hb hby at_134) rfl rfl k) ?_
          show OwnGo p e below (T1275.setTop (mkF m 135 #[.val (.int p1), .val (.int p2), .val (.int p3), .val (.int tt), .val (.int ln), .val (.int dd), .val (.int nn), .unset, .unset, .unset, .unset, .unset, .unset, .unset, .unset, .unset, .unset, .unset, .unset] [(.ref b1214), (.ref b1214)])) _
          refine own_back (fun t k => XS.bipush X1275.here hx rfl (hb hby at_135) k) ?_
          show OwnGo p e below (T1275.setTop (mkF m 137 #[.val (.int p1), .val (.int p2), .val (.int p3), .val (.int tt), .val (.int ln), .val (.int dd), .val (.int nn), .unset, .unset, .unset, .unset, .unset, .unset, .unset, .unset, .unset, .unset, .unset, .unset] [(.int (6 : Int32)), (.ref b1214), (.ref b1214)])) _
          refine own_back (fun t k => XS.bipush X1275.here hx rfl (hb hby at_137) k) ?_
          show OwnGo p e below (T1275.setTop (mkF m 139 #[.val (.int p1), .val (.int p2), .val (.int p3), .val (.int tt), .val (.int ln), .val (.int dd), .val (.int nn), .unset, .unset, .unset, .unset, .unset, .unset, .unset, .unset, .unset, .unset, .unset, .unset] [(.int (120 : Int32)), (.int (6 : Int32)), (.ref b1214), (.ref b1214)])) _
          obtain ⟨c1284, A1284, q1284, S1284, M1284, H1284, U1284⟩ := id V1282
          obtain ⟨T1285, h1285, X1285, e1285, W1285, st1285⟩ := stC X1275 hx hZj1012 e1275 A1284 (j := (6 : Int32)) (inb_of S1284 ⟨by decide, by decide⟩) (g := (mkF m 139 #[.val (.int p1), .val (.int p2), .val (.int p3), .val (.int tt), .val (.int ln), .val (.int dd), .val (.int nn), .unset, .unset, .unset, .unset, .unset, .unset, .unset, .unset, .unset, .unset, .unset, .unset] [(.int (120 : Int32)), (.int (6 : Int32)), (.ref b1214), (.ref b1214)])) rfl rfl (hb hby at_139)
          have O1286 := O1276.wr W1285 ge1215
          have KP1287 := KP1277.wr W1285 (Or.inr sz1216)
          have Zs1288 := Nat.le_trans Zs1278 (Keep.of_wr W1285).1
          have CR1289 := CR1279.trans (CHr.wr W1285 f1281 CR1279.1)
          have hk1290 := Nat.le_trans hk1280 (Keep.of_wr W1285).1
          have f1291 := (Safe.wr W1285 f1281 CR1279.1 f1281)
          have V1292 : Arv Z h1285 b1214 k1214 .char (7 : Int32) [(.int (nar .char (112 : Int32))), (.int (nar .char (114 : Int32))), (.int (nar .char (105 : Int32))), (.int (nar .char (99 : Int32))), (.int (nar .char (101 : Int32))), (.int (nar .char (120 : Int32))), (.int (nar .char (120 : Int32)))] (.int (0 : Int32)) := Arv.set A1284 q1284 S1284 M1284 H1284 U1284 (fits_nar_char _) W1285 6 rfl (Nat.le_of_ble_eq_true rfl)
          have N1293 := Fr.snoc X1285 N1283 ge1215
          refine own_back st1285 ?_
          show OwnGo p e below (T1285.setTop (mkF m 140 #[.val (.int p1), .val (.int p2), .val (.int p3), .val (.int tt), .val (.int ln), .val (.int dd), .val (.int nn), .unset, .unset, .unset, .unset, .unset, .unset, .unset, .unset, .unset, .unset, .unset, .unset] [(.ref b1214)])) _
          exact tl140_1013 _ _ b1214 k1214 (nar .char (112 : Int32)) (nar .char (114 : Int32)) (nar .char (105 : Int32)) (nar .char (99 : Int32)) (nar .char (101 : Int32)) (nar .char (120 : Int32)) (nar .char (120 : Int32)) ⟨_, _, _, X1285, e1285, hSj1012, hk1290, hZj1012, hownj1012, CR1289, O1286, KP1287, Zs1288, N1293⟩ V1292 (own_allS (OwnCh.of (by decide)) (own_allS (OwnCh.of (by decide)) (own_allS (OwnCh.of (by decide)) (own_allS (OwnCh.of (by decide)) (own_allS (OwnCh.of (by decide)) (own_allS (OwnCh.of (by decide)) (own_allS (OwnCh.of (by decide)) own_all0)))))))
        · refine own_back (fun t k => XS.ifNo Xj1012.here hx rfl (hb hby at_54) rfl (Jvm.Free.XT.i0_eq_f hc54_1213) k) ?_
          show OwnGo p e below (Tj1012.setTop (mkF m 57 #[.val (.int p1), .val (.int p2), .val (.int p3), .val (.int tt), .val (.int ln), .val (.int dd), .val (.int nn), .unset, .unset, .unset, .unset, .unset, .unset, .unset, .unset, .unset, .unset, .unset, .unset] [])) _
          refine own_back (fun t k => XS.bipush Xj1012.here hx rfl (hb hby at_57) k) ?_
          show OwnGo p e below (Tj1012.setTop (mkF m 59 #[.val (.int p1), .val (.int p2), .val (.int p3), .val (.int tt), .val (.int ln), .val (.int dd), .val (.int nn), .unset, .unset, .unset, .unset, .unset, .unset, .unset, .unset, .unset, .unset, .unset, .unset] [(.int (7 : Int32))])) _
          obtain ⟨T1294, h1294, k1294, X1294, e1294, E1294, A1294, st1294⟩ := newP Xj1012 hx hZj1012 (hw _ (List.mem_of_getElem? (i := 0) rfl)) ej1012 (g := (mkF m 59 #[.val (.int p1), .val (.int p2), .val (.int p3), .val (.int tt), .val (.int ln), .val (.int dd), .val (.int nn), .unset, .unset, .unset, .unset, .unset, .unset, .unset, .unset, .unset, .unset, .unset, .unset] [(.int (7 : Int32))])) rfl (hb hby at_59) rfl (by decide) (cap := 7) (by decide) (by decide) (Nat.le_of_ble_eq_true rfl) (Nat.le_of_ble_eq_true rfl)
          obtain ⟨b1294, g1294⟩ : ∃ z, z = hj1012.size := ⟨_, rfl⟩
          have ge1295 : n0 ≤ b1294 := Nat.le_trans Zj1012 (Nat.le_of_eq g1294.symm)
          have sz1296 : h0.size ≤ b1294 := Nat.le_trans KPj1012.1 (Nat.le_of_eq g1294.symm)
          rw [← g1294] at A1294 st1294
          have O1297 := Oj1012.ext E1294
          have KP1298 := KPj1012.ext E1294
          have Zs1299 := Nat.le_trans Zj1012 E1294.1
          have CR1300 := CRj1012.trans (CHr.ext E1294 CRj1012.1)
          have hk1301 := Nat.le_trans hkj1012 E1294.1
          have V1302 : Arv Z h1294 b1294 k1294 .char (7 : Int32) [(.int (0 : Int32)), (.int (0 : Int32)), (.int (0 : Int32)), (.int (0 : Int32)), (.int (0 : Int32)), (.int (0 : Int32)), (.int (0 : Int32))] (.int (0 : Int32)) := (Arv.new A1294 (by decide)).pad (pad_rep [] (.int (0 : Int32)) 7)
          have sf1303 := Safe.ext E1294 CRj1012.1 (Safe.new (Nat.le_of_eq g1294.symm))
          refine own_back st1294 ?_
          show OwnGo p e below (T1294.setTop (mkF m 61 #[.val (.int p1), .val (.int p2), .val (.int p3), .val (.int tt), .val (.int ln), .val (.int dd), .val (.int nn), .unset, .unset, .unset, .unset, .unset, .unset, .unset, .unset, .unset, .unset, .unset, .unset] [(.ref b1294)])) _
          refine own_back (fun t k => XS.dup X1294.here hx rfl (hb hby at_61) rfl rfl k) ?_
          show OwnGo p e below (T1294.setTop (mkF m 62 #[.val (.int p1), .val (.int p2), .val (.int p3), .val (.int tt), .val (.int ln), .val (.int dd), .val (.int nn), .unset, .unset, .unset, .unset, .unset, .unset, .unset, .unset, .unset, .unset, .unset, .unset] [(.ref b1294), (.ref b1294)])) _
          refine own_back (fun t k => XS.iconst X1294.here hx rfl (hb hby at_62) k) ?_
          show OwnGo p e below (T1294.setTop (mkF m 63 #[.val (.int p1), .val (.int p2), .val (.int p3), .val (.int tt), .val (.int ln), .val (.int dd), .val (.int nn), .unset, .unset, .unset, .unset, .unset, .unset, .unset, .unset, .unset, .unset, .unset, .unset] [(.int (0 : Int32)), (.ref b1294), (.ref b1294)])) _
          refine own_back (fun t k => XS.bipush X1294.here hx rfl (hb hby at_63) k) ?_
          show OwnGo p e below (T1294.setTop (mkF m 65 #[.val (.int p1), .val (.int p2), .val (.int p3), .val (.int tt), .val (.int ln), .val (.int dd), .val (.int nn), .unset, .unset, .unset, .unset, .unset, .unset, .unset, .unset, .unset, .unset, .unset, .unset] [(.int (116 : Int32)), (.int (0 : Int32)), (.ref b1294), (.ref b1294)])) _
          obtain ⟨c1304, A1304, q1304, S1304, M1304, H1304, U1304⟩ := id V1302
          obtain ⟨T1305, h1305, X1305, e1305, W1305, st1305⟩ := stC X1294 hx hZj1012 e1294 A1304 (j := (0 : Int32)) (inb_of S1304 ⟨by decide, by decide⟩) (g := (mkF m 65 #[.val (.int p1), .val (.int p2), .val (.int p3), .val (.int tt), .val (.int ln), .val (.int dd), .val (.int nn), .unset, .unset, .unset, .unset, .unset, .unset, .unset, .unset, .unset, .unset, .unset, .unset] [(.int (116 : Int32)), (.int (0 : Int32)), (.ref b1294), (.ref b1294)])) rfl rfl (hb hby at_65)
          have O1306 := O1297.wr W1305 ge1295
          have KP1307 := KP1298.wr W1305 (Or.inr sz1296)
          have Zs1308 := Nat.le_trans Zs1299 (Keep.of_wr W1305).1
          have CR1309 := CR1300.trans (CHr.wr W1305 sf1303 CR1300.1)
          have hk1310 := Nat.le_trans hk1301 (Keep.of_wr W1305).1
          have f1311 := (Safe.wr W1305 sf1303 CR1300.1 sf1303)
          have V1312 : Arv Z h1305 b1294 k1294 .char (7 : Int32) [(.int (nar .char (116 : Int32))), (.int (0 : Int32)), (.int (0 : Int32)), (.int (0 : Int32)), (.int (0 : Int32)), (.int (0 : Int32)), (.int (0 : Int32))] (.int (0 : Int32)) := Arv.set A1304 q1304 S1304 M1304 H1304 U1304 (fits_nar_char _) W1305 0 rfl (Nat.le_of_ble_eq_true rfl)
          have N1313 := Fr.snoc X1305 Nj1012 ge1295
          refine own_back st1305 ?_
          show OwnGo p e below (T1305.setTop (mkF m 66 #[.val (.int p1), .val (.int p2), .val (.int p3), .val (.int tt), .val (.int ln), .val (.int dd), .val (.int nn), .unset, .unset, .unset, .unset, .unset, .unset, .unset, .unset, .unset, .unset, .unset, .unset] [(.ref b1294)])) _
          refine own_back (fun t k => XS.dup X1305.here hx rfl (hb hby at_66) rfl rfl k) ?_
          show OwnGo p e below (T1305.setTop (mkF m 67 #[.val (.int p1), .val (.int p2), .val (.int p3), .val (.int tt), .val (.int ln), .val (.int dd), .val (.int nn), .unset, .unset, .unset, .unset, .unset, .unset, .unset, .unset, .unset, .unset, .unset, .unset] [(.ref b1294), (.ref b1294)])) _
          refine own_back (fun t k => XS.iconst X1305.here hx rfl (hb hby at_67) k) ?_
          show OwnGo p e below (T1305.setTop (mkF m 68 #[.val (.int p1), .val (.int p2), .val (.int p3), .val (.int tt), .val (.int ln), .val (.int dd), .val (.int nn), .unset, .unset, .unset, .unset, .unset, .unset, .unset, .unset, .unset, .unset, .unset, .unset] [(.int (1 : Int32)), (.ref b1294), (.ref b1294)])) _
          refine own_back (fun t k => XS.bipush X1305.here hx rfl (hb hby at_68) k) ?_
          show OwnGo p e below (T1305.setTop (mkF m 70 #[.val (.int p1), .val (.int p2), .val (.int p3), .val (.int tt), .val (.int ln), .val (.int dd), .val (.int nn), .unset, .unset, .unset, .unset, .unset, .unset, .unset, .unset, .unset, .unset, .unset, .unset] [(.int (111 : Int32)), (.int (1 : Int32)), (.ref b1294), (.ref b1294)])) _
          obtain ⟨c1314, A1314, q1314, S1314, M1314, H1314, U1314⟩ := id V1312
          obtain ⟨T1315, h1315, X1315, e1315, W1315, st1315⟩ := stC X1305 hx hZj1012 e1305 A1314 (j := (1 : Int32)) (inb_of S1314 ⟨by decide, by decide⟩) (g := (mkF m 70 #[.val (.int p1), .val (.int p2), .val (.int p3), .val (.int tt), .val (.int ln), .val (.int dd), .val (.int nn), .unset, .unset, .unset, .unset, .unset, .unset, .unset, .unset, .unset, .unset, .unset, .unset] [(.int (111 : Int32)), (.int (1 : Int32)), (.ref b1294), (.ref b1294)])) rfl rfl (hb hby at_70)
          have O1316 := O1306.wr W1315 ge1295
          have KP1317 := KP1307.wr W1315 (Or.inr sz1296)
          have Zs1318 := Nat.le_trans Zs1308 (Keep.of_wr W1315).1
          have CR1319 := CR1309.trans (CHr.wr W1315 f1311 CR1309.1)
          have hk1320 := Nat.le_trans hk1310 (Keep.of_wr W1315).1
          have f1321 := (Safe.wr W1315 f1311 CR1309.1 f1311)
          have V1322 : Arv Z h1315 b1294 k1294 .char (7 : Int32) [(.int (nar .char (116 : Int32))), (.int (nar .char (111 : Int32))), (.int (0 : Int32)), (.int (0 : Int32)), (.int (0 : Int32)), (.int (0 : Int32)), (.int (0 : Int32))] (.int (0 : Int32)) := Arv.set A1314 q1314 S1314 M1314 H1314 U1314 (fits_nar_char _) W1315 1 rfl (Nat.le_of_ble_eq_true rfl)
          have N1323 := Fr.snoc X1315 N1313 ge1295
          refine own_back st1315 ?_
          show OwnGo p e below (T1315.setTop (mkF m 71 #[.val (.int p1), .val (.int p2), .val (.int p3), .val (.int tt), .val (.int ln), .val (.int dd), .val (.int nn), .unset, .unset, .unset, .unset, .unset, .unset, .unset, .unset, .unset, .unset, .unset, .unset] [(.ref b1294)])) _
          refine own_back (fun t k => XS.dup X1315.here hx rfl (hb hby at_71) rfl rfl k) ?_
          show OwnGo p e below (T1315.setTop (mkF m 72 #[.val (.int p1), .val (.int p2), .val (.int p3), .val (.int tt), .val (.int ln), .val (.int dd), .val (.int nn), .unset, .unset, .unset, .unset, .unset, .unset, .unset, .unset, .unset, .unset, .unset, .unset] [(.ref b1294), (.ref b1294)])) _
          refine own_back (fun t k => XS.iconst X1315.here hx rfl (hb hby at_72) k) ?_
          show OwnGo p e below (T1315.setTop (mkF m 73 #[.val (.int p1), .val (.int p2), .val (.int p3), .val (.int tt), .val (.int ln), .val (.int dd), .val (.int nn), .unset, .unset, .unset, .unset, .unset, .unset, .unset, .unset, .unset, .unset, .unset, .unset] [(.int (2 : Int32)), (.ref b1294), (.ref b1294)])) _
          refine own_back (fun t k => XS.bipush X1315.here hx rfl (hb hby at_73) k) ?_
          show OwnGo p e below (T1315.setTop (mkF m 75 #[.val (.int p1), .val (.int p2), .val (.int p3), .val (.int tt), .val (.int ln), .val (.int dd), .val (.int nn), .unset, .unset, .unset, .unset, .unset, .unset, .unset, .unset, .unset, .unset, .unset, .unset] [(.int (116 : Int32)), (.int (2 : Int32)), (.ref b1294), (.ref b1294)])) _
          obtain ⟨c1324, A1324, q1324, S1324, M1324, H1324, U1324⟩ := id V1322
          obtain ⟨T1325, h1325, X1325, e1325, W1325, st1325⟩ := stC X1315 hx hZj1012 e1315 A1324 (j := (2 : Int32)) (inb_of S1324 ⟨by decide, by decide⟩) (g := (mkF m 75 #[.val (.int p1), .val (.int p2), .val (.int p3), .val (.int tt), .val (.int ln), .val (.int dd), .val (.int nn), .unset, .unset, .unset, .unset, .unset, .unset, .unset, .unset, .unset, .unset, .unset, .unset] [(.int (116 : Int32)), (.int (2 : Int32)), (.ref b1294), (.ref b1294)])) rfl rfl (hb hby at_75)
          have O1326 := O1316.wr W1325 ge1295
          have KP1327 := KP1317.wr W1325 (Or.inr sz1296)
          have Zs1328 := Nat.le_trans Zs1318 (Keep.of_wr W1325).1
          have CR1329 := CR1319.trans (CHr.wr W1325 f1321 CR1319.1)
          have hk1330 := Nat.le_trans hk1320 (Keep.of_wr W1325).1
          have f1331 := (Safe.wr W1325 f1321 CR1319.1 f1321)
          have V1332 : Arv Z h1325 b1294 k1294 .char (7 : Int32) [(.int (nar .char (116 : Int32))), (.int (nar .char (111 : Int32))), (.int (nar .char (116 : Int32))), (.int (0 : Int32)), (.int (0 : Int32)), (.int (0 : Int32)), (.int (0 : Int32))] (.int (0 : Int32)) := Arv.set A1324 q1324 S1324 M1324 H1324 U1324 (fits_nar_char _) W1325 2 rfl (Nat.le_of_ble_eq_true rfl)
          have N1333 := Fr.snoc X1325 N1323 ge1295
          refine own_back st1325 ?_
          show OwnGo p e below (T1325.setTop (mkF m 76 #[.val (.int p1), .val (.int p2), .val (.int p3), .val (.int tt), .val (.int ln), .val (.int dd), .val (.int nn), .unset, .unset, .unset, .unset, .unset, .unset, .unset, .unset, .unset, .unset, .unset, .unset] [(.ref b1294)])) _
          refine own_back (fun t k => XS.dup X1325.here hx rfl (hb hby at_76) rfl rfl k) ?_
          show OwnGo p e below (T1325.setTop (mkF m 77 #[.val (.int p1), .val (.int p2), .val (.int p3), .val (.int tt), .val (.int ln), .val (.int dd), .val (.int nn), .unset, .unset, .unset, .unset, .unset, .unset, .unset, .unset, .unset, .unset, .unset, .unset] [(.ref b1294), (.ref b1294)])) _
          refine own_back (fun t k => XS.iconst X1325.here hx rfl (hb hby at_77) k) ?_
          show OwnGo p e below (T1325.setTop (mkF m 78 #[.val (.int p1), .val (.int p2), .val (.int p3), .val (.int tt), .val (.int ln), .val (.int dd), .val (.int nn), .unset, .unset, .unset, .unset, .unset, .unset, .unset, .unset, .unset, .unset, .unset, .unset] [(.int (3 : Int32)), (.ref b1294), (.ref b1294)])) _
          refine own_back (fun t k => XS.bipush X1325.here hx rfl (hb hby at_78) k) ?_
          show OwnGo p e below (T1325.setTop (mkF m 80 #[.val (.int p1), .val (.int p2), .val (.int p3), .val (.int tt), .val (.int ln), .val (.int dd), .val (.int nn), .unset, .unset, .unset, .unset, .unset, .unset, .unset, .unset, .unset, .unset, .unset, .unset] [(.int (97 : Int32)), (.int (3 : Int32)), (.ref b1294), (.ref b1294)])) _
          obtain ⟨c1334, A1334, q1334, S1334, M1334, H1334, U1334⟩ := id V1332
          obtain ⟨T1335, h1335, X1335, e1335, W1335, st1335⟩ := stC X1325 hx hZj1012 e1325 A1334 (j := (3 : Int32)) (inb_of S1334 ⟨by decide, by decide⟩) (g := (mkF m 80 #[.val (.int p1), .val (.int p2), .val (.int p3), .val (.int tt), .val (.int ln), .val (.int dd), .val (.int nn), .unset, .unset, .unset, .unset, .unset, .unset, .unset, .unset, .unset, .unset, .unset, .unset] [(.int (97 : Int32)), (.int (3 : Int32)), (.ref b1294), (.ref b1294)])) rfl rfl (hb hby at_80)
          have O1336 := O1326.wr W1335 ge1295
          have KP1337 := KP1327.wr W1335 (Or.inr sz1296)
          have Zs1338 := Nat.le_trans Zs1328 (Keep.of_wr W1335).1
          have CR1339 := CR1329.trans (CHr.wr W1335 f1331 CR1329.1)
          have hk1340 := Nat.le_trans hk1330 (Keep.of_wr W1335).1
          have f1341 := (Safe.wr W1335 f1331 CR1329.1 f1331)
          have V1342 : Arv Z h1335 b1294 k1294 .char (7 : Int32) [(.int (nar .char (116 : Int32))), (.int (nar .char (111 : Int32))), (.int (nar .char (116 : Int32))), (.int (nar .char (97 : Int32))), (.int (0 : Int32)), (.int (0 : Int32)), (.int (0 : Int32))] (.int (0 : Int32)) := Arv.set A1334 q1334 S1334 M1334 H1334 U1334 (fits_nar_char _) W1335 3 rfl (Nat.le_of_ble_eq_true rfl)
          have N1343 := Fr.snoc X1335 N1333 ge1295
          refine own_back st1335 ?_
          show OwnGo p e below (T1335.setTop (mkF m 81 #[.val (.int p1), .val (.int p2), .val (.int p3), .val (.int tt), .val (.int ln), .val (.int dd), .val (.int nn), .unset, .unset, .unset, .unset, .unset, .unset, .unset, .unset, .unset, .unset, .unset, .unset] [(.ref b1294)])) _
          refine own_back (fun t k => XS.dup X1335.here hx rfl (hb hby at_81) rfl rfl k) ?_
          show OwnGo p e below (T1335.setTop (mkF m 82 #[.val (.int p1), .val (.int p2), .val (.int p3), .val (.int tt), .val (.int ln), .val (.int dd), .val (.int nn), .unset, .unset, .unset, .unset, .unset, .unset, .unset, .unset, .unset, .unset, .unset, .unset] [(.ref b1294), (.ref b1294)])) _
          refine own_back (fun t k => XS.iconst X1335.here hx rfl (hb hby at_82) k) ?_
          show OwnGo p e below (T1335.setTop (mkF m 83 #[.val (.int p1), .val (.int p2), .val (.int p3), .val (.int tt), .val (.int ln), .val (.int dd), .val (.int nn), .unset, .unset, .unset, .unset, .unset, .unset, .unset, .unset, .unset, .unset, .unset, .unset] [(.int (4 : Int32)), (.ref b1294), (.ref b1294)])) _
          refine own_back (fun t k => XS.bipush X1335.here hx rfl (hb hby at_83) k) ?_
          show OwnGo p e below (T1335.setTop (mkF m 85 #[.val (.int p1), .val (.int p2), .val (.int p3), .val (.int tt), .val (.int ln), .val (.int dd), .val (.int nn), .unset, .unset, .unset, .unset, .unset, .unset, .unset, .unset, .unset, .unset, .unset, .unset] [(.int (108 : Int32)), (.int (4 : Int32)), (.ref b1294), (.ref b1294)])) _
          obtain ⟨c1344, A1344, q1344, S1344, M1344, H1344, U1344⟩ := id V1342
          obtain ⟨T1345, h1345, X1345, e1345, W1345, st1345⟩ := stC X1335 hx hZj1012 e1335 A1344 (j := (4 : Int32)) (inb_of S1344 ⟨by decide, by decide⟩) (g := (mkF m 85 #[.val (.int p1), .val (.int p2), .val (.int p3), .val (.int tt), .val (.int ln), .val (.int dd), .val (.int nn), .unset, .unset, .unset, .unset, .unset, .unset, .unset, .unset, .unset, .unset, .unset, .unset] [(.int (108 : Int32)), (.int (4 : Int32)), (.ref b1294), (.ref b1294)])) rfl rfl (hb hby at_85)
          have O1346 := O1336.wr W1345 ge1295
          have KP1347 := KP1337.wr W1345 (Or.inr sz1296)
          have Zs1348 := Nat.le_trans Zs1338 (Keep.of_wr W1345).1
          have CR1349 := CR1339.trans (CHr.wr W1345 f1341 CR1339.1)
          have hk1350 := Nat.le_trans hk1340 (Keep.of_wr W1345).1
          have f1351 := (Safe.wr W1345 f1341 CR1339.1 f1341)
          have V1352 : Arv Z h1345 b1294 k1294 .char (7 : Int32) [(.int (nar .char (116 : Int32))), (.int (nar .char (111 : Int32))), (.int (nar .char (116 : Int32))), (.int (nar .char (97 : Int32))), (.int (nar .char (108 : Int32))), (.int (0 : Int32)), (.int (0 : Int32))] (.int (0 : Int32)) := Arv.set A1344 q1344 S1344 M1344 H1344 U1344 (fits_nar_char _) W1345 4 rfl (Nat.le_of_ble_eq_true rfl)
          have N1353 := Fr.snoc X1345 N1343 ge1295
          refine own_back st1345 ?_
          show OwnGo p e below (T1345.setTop (mkF m 86 #[.val (.int p1), .val (.int p2), .val (.int p3), .val (.int tt), .val (.int ln), .val (.int dd), .val (.int nn), .unset, .unset, .unset, .unset, .unset, .unset, .unset, .unset, .unset, .unset, .unset, .unset] [(.ref b1294)])) _
          refine own_back (fun t k => XS.dup X1345.here hx rfl (hb hby at_86) rfl rfl k) ?_
          show OwnGo p e below (T1345.setTop (mkF m 87 #[.val (.int p1), .val (.int p2), .val (.int p3), .val (.int tt), .val (.int ln), .val (.int dd), .val (.int nn), .unset, .unset, .unset, .unset, .unset, .unset, .unset, .unset, .unset, .unset, .unset, .unset] [(.ref b1294), (.ref b1294)])) _
          refine own_back (fun t k => XS.iconst X1345.here hx rfl (hb hby at_87) k) ?_
          show OwnGo p e below (T1345.setTop (mkF m 88 #[.val (.int p1), .val (.int p2), .val (.int p3), .val (.int tt), .val (.int ln), .val (.int dd), .val (.int nn), .unset, .unset, .unset, .unset, .unset, .unset, .unset, .unset, .unset, .unset, .unset, .unset] [(.int (5 : Int32)), (.ref b1294), (.ref b1294)])) _
          refine own_back (fun t k => XS.bipush X1345.here hx rfl (hb hby at_88) k) ?_
          show OwnGo p e below (T1345.setTop (mkF m 90 #[.val (.int p1), .val (.int p2), .val (.int p3), .val (.int tt), .val (.int ln), .val (.int dd), .val (.int nn), .unset, .unset, .unset, .unset, .unset, .unset, .unset, .unset, .unset, .unset, .unset, .unset] [(.int (120 : Int32)), (.int (5 : Int32)), (.ref b1294), (.ref b1294)])) _
          obtain ⟨c1354, A1354, q1354, S1354, M1354, H1354, U1354⟩ := id V1352
          obtain ⟨T1355, h1355, X1355, e1355, W1355, st1355⟩ := stC X1345 hx hZj1012 e1345 A1354 (j := (5 : Int32)) (inb_of S1354 ⟨by decide, by decide⟩) (g := (mkF m 90 #[.val (.int p1), .val (.int p2), .val (.int p3), .val (.int tt), .val (.int ln), .val (.int dd), .val (.int nn), .unset, .unset, .unset, .unset, .unset, .unset, .unset, .unset, .unset, .unset, .unset, .unset] [(.int (120 : Int32)), (.int (5 : Int32)), (.ref b1294), (.ref b1294)])) rfl rfl (hb hby at_90)
          have O1356 := O1346.wr W1355 ge1295
          have KP1357 := KP1347.wr W1355 (Or.inr sz1296)
          have Zs1358 := Nat.le_trans Zs1348 (Keep.of_wr W1355).1
          have CR1359 := CR1349.trans (CHr.wr W1355 f1351 CR1349.1)
          have hk1360 := Nat.le_trans hk1350 (Keep.of_wr W1355).1
          have f1361 := (Safe.wr W1355 f1351 CR1349.1 f1351)
          have V1362 : Arv Z h1355 b1294 k1294 .char (7 : Int32) [(.int (nar .char (116 : Int32))), (.int (nar .char (111 : Int32))), (.int (nar .char (116 : Int32))), (.int (nar .char (97 : Int32))), (.int (nar .char (108 : Int32))), (.int (nar .char (120 : Int32))), (.int (0 : Int32))] (.int (0 : Int32)) := Arv.set A1354 q1354 S1354 M1354 H1354 U1354 (fits_nar_char _) W1355 5 rfl (Nat.le_of_ble_eq_true rfl)
          have N1363 := Fr.snoc X1355 N1353 ge1295
          refine own_back st1355 ?_
          show OwnGo p e below (T1355.setTop (mkF m 91 #[.val (.int p1), .val (.int p2), .val (.int p3), .val (.int tt), .val (.int ln), .val (.int dd), .val (.int nn), .unset, .unset, .unset, .unset, .unset, .unset, .unset, .unset, .unset, .unset, .unset, .unset] [(.ref b1294)])) _
          refine own_back (fun t k => XS.dup X1355.here hx rfl (hb hby at_91) rfl rfl k) ?_
          show OwnGo p e below (T1355.setTop (mkF m 92 #[.val (.int p1), .val (.int p2), .val (.int p3), .val (.int tt), .val (.int ln), .val (.int dd), .val (.int nn), .unset, .unset, .unset, .unset, .unset, .unset, .unset, .unset, .unset, .unset, .unset, .unset] [(.ref b1294), (.ref b1294)])) _
          refine own_back (fun t k => XS.bipush X1355.here hx rfl (hb hby at_92) k) ?_
          show OwnGo p e below (T1355.setTop (mkF m 94 #[.val (.int p1), .val (.int p2), .val (.int p3), .val (.int tt), .val (.int ln), .val (.int dd), .val (.int nn), .unset, .unset, .unset, .unset, .unset, .unset, .unset, .unset, .unset, .unset, .unset, .unset] [(.int (6 : Int32)), (.ref b1294), (.ref b1294)])) _
          refine own_back (fun t k => XS.bipush X1355.here hx rfl (hb hby at_94) k) ?_
          show OwnGo p e below (T1355.setTop (mkF m 96 #[.val (.int p1), .val (.int p2), .val (.int p3), .val (.int tt), .val (.int ln), .val (.int dd), .val (.int nn), .unset, .unset, .unset, .unset, .unset, .unset, .unset, .unset, .unset, .unset, .unset, .unset] [(.int (120 : Int32)), (.int (6 : Int32)), (.ref b1294), (.ref b1294)])) _
          obtain ⟨c1364, A1364, q1364, S1364, M1364, H1364, U1364⟩ := id V1362
          obtain ⟨T1365, h1365, X1365, e1365, W1365, st1365⟩ := stC X1355 hx hZj1012 e1355 A1364 (j := (6 : Int32)) (inb_of S1364 ⟨by decide, by decide⟩) (g := (mkF m 96 #[.val (.int p1), .val (.int p2), .val (.int p3), .val (.int tt), .val (.int ln), .val (.int dd), .val (.int nn), .unset, .unset, .unset, .unset, .unset, .unset, .unset, .unset, .unset, .unset, .unset, .unset] [(.int (120 : Int32)), (.int (6 : Int32)), (.ref b1294), (.ref b1294)])) rfl rfl (hb hby at_96)
          have O1366 := O1356.wr W1365 ge1295
          have KP1367 := KP1357.wr W1365 (Or.inr sz1296)
          have Zs1368 := Nat.le_trans Zs1358 (Keep.of_wr W1365).1
          have CR1369 := CR1359.trans (CHr.wr W1365 f1361 CR1359.1)
          have hk1370 := Nat.le_trans hk1360 (Keep.of_wr W1365).1
          have f1371 := (Safe.wr W1365 f1361 CR1359.1 f1361)
          have V1372 : Arv Z h1365 b1294 k1294 .char (7 : Int32) [(.int (nar .char (116 : Int32))), (.int (nar .char (111 : Int32))), (.int (nar .char (116 : Int32))), (.int (nar .char (97 : Int32))), (.int (nar .char (108 : Int32))), (.int (nar .char (120 : Int32))), (.int (nar .char (120 : Int32)))] (.int (0 : Int32)) := Arv.set A1364 q1364 S1364 M1364 H1364 U1364 (fits_nar_char _) W1365 6 rfl (Nat.le_of_ble_eq_true rfl)
          have N1373 := Fr.snoc X1365 N1363 ge1295
          refine own_back st1365 ?_
          show OwnGo p e below (T1365.setTop (mkF m 97 #[.val (.int p1), .val (.int p2), .val (.int p3), .val (.int tt), .val (.int ln), .val (.int dd), .val (.int nn), .unset, .unset, .unset, .unset, .unset, .unset, .unset, .unset, .unset, .unset, .unset, .unset] [(.ref b1294)])) _
          refine own_back (fun t k => XS.goto X1365.here hx rfl (pc0 := 97) (pc' := 140) rfl (hb hby at_97) (by decide) (by decide) k) ?_
          show OwnGo p e below (T1365.setTop (mkF m 140 #[.val (.int p1), .val (.int p2), .val (.int p3), .val (.int tt), .val (.int ln), .val (.int dd), .val (.int nn), .unset, .unset, .unset, .unset, .unset, .unset, .unset, .unset, .unset, .unset, .unset, .unset] [(.ref b1294)])) _
          exact tl140_1013 _ _ b1294 k1294 (nar .char (116 : Int32)) (nar .char (111 : Int32)) (nar .char (116 : Int32)) (nar .char (97 : Int32)) (nar .char (108 : Int32)) (nar .char (120 : Int32)) (nar .char (120 : Int32)) ⟨_, _, _, X1365, e1365, hSj1012, hk1370, hZj1012, hownj1012, CR1369, O1366, KP1367, Zs1368, N1373⟩ V1372 (own_allS (OwnCh.of (by decide)) (own_allS (OwnCh.of (by decide)) (own_allS (OwnCh.of (by decide)) (own_allS (OwnCh.of (by decide)) (own_allS (OwnCh.of (by decide)) (own_allS (OwnCh.of (by decide)) (own_allS (OwnCh.of (by decide)) own_all0)))))))
      by_cases hc43_1374 : (((p1.toUInt32 >>> ((5 : Int32) &&& 31).toUInt32).toInt32) &&& (15 : Int32)) = (15 : Int32)
      · refine own_back (fun t k => XS.icmpNo Xj1011.here hx rfl (hb hby at_43) rfl (Jvm.Free.XT.ii_ne_f hc43_1374) k) ?_
        show OwnGo p e below (Tj1011.setTop (mkF m 46 #[.val (.int p1), .val (.int p2), .val (.int p3), .val (.int tt), .val (.int ln), .val (.int dd), .unset, .unset, .unset, .unset, .unset, .unset, .unset, .unset, .unset, .unset, .unset, .unset, .unset] [])) _
        refine own_back (fun t k => XS.iconst Xj1011.here hx rfl (hb hby at_46) k) ?_
        show OwnGo p e below (Tj1011.setTop (mkF m 47 #[.val (.int p1), .val (.int p2), .val (.int p3), .val (.int tt), .val (.int ln), .val (.int dd), .unset, .unset, .unset, .unset, .unset, .unset, .unset, .unset, .unset, .unset, .unset, .unset, .unset] [(.int (1 : Int32))])) _
        refine own_back (fun t k => XS.goto Xj1011.here hx rfl (pc0 := 47) (pc' := 51) rfl (hb hby at_47) (by decide) (by decide) k) ?_
        show OwnGo p e below (Tj1011.setTop (mkF m 51 #[.val (.int p1), .val (.int p2), .val (.int p3), .val (.int tt), .val (.int ln), .val (.int dd), .unset, .unset, .unset, .unset, .unset, .unset, .unset, .unset, .unset, .unset, .unset, .unset, .unset] [(.int (1 : Int32))])) _
        exact tl51_1012 _ _ (1 : Int32) ⟨_, _, _, Xj1011, ej1011, hSj1011, hkj1011, hZj1011, hownj1011, CRj1011, Oj1011, KPj1011, Zj1011, Nj1011⟩
      · refine own_back (fun t k => XS.icmpYes Xj1011.here hx rfl (pc0 := 43) (pc' := 50) rfl (hb hby at_43) rfl (Jvm.Free.XT.ii_ne_t hc43_1374) (by decide) (by decide) k) ?_
        show OwnGo p e below (Tj1011.setTop (mkF m 50 #[.val (.int p1), .val (.int p2), .val (.int p3), .val (.int tt), .val (.int ln), .val (.int dd), .unset, .unset, .unset, .unset, .unset, .unset, .unset, .unset, .unset, .unset, .unset, .unset, .unset] [])) _
        refine own_back (fun t k => XS.iconst Xj1011.here hx rfl (hb hby at_50) k) ?_
        show OwnGo p e below (Tj1011.setTop (mkF m 51 #[.val (.int p1), .val (.int p2), .val (.int p3), .val (.int tt), .val (.int ln), .val (.int dd), .unset, .unset, .unset, .unset, .unset, .unset, .unset, .unset, .unset, .unset, .unset, .unset, .unset] [(.int (0 : Int32))])) _
        exact tl51_1012 _ _ (0 : Int32) ⟨_, _, _, Xj1011, ej1011, hSj1011, hkj1011, hZj1011, hownj1011, CRj1011, Oj1011, KPj1011, Zj1011, Nj1011⟩
    by_cases hc25_1375 : (((p1.toUInt32 >>> ((4 : Int32) &&& 31).toUInt32).toInt32) &&& (1 : Int32)) = (0 : Int32)
    · refine own_back (fun t k => XS.ifYes Xj1010.here hx rfl (pc0 := 25) (pc' := 32) rfl (hb hby at_25) rfl (Jvm.Free.XT.i0_eq_t hc25_1375) (by decide) (by decide) k) ?_
      show OwnGo p e below (Tj1010.setTop (mkF m 32 #[.val (.int p1), .val (.int p2), .val (.int p3), .val (.int tt), .val (.int ln), .unset, .unset, .unset, .unset, .unset, .unset, .unset, .unset, .unset, .unset, .unset, .unset, .unset, .unset] [])) _
      refine own_back (fun t k => XS.iconst Xj1010.here hx rfl (hb hby at_32) k) ?_
      show OwnGo p e below (Tj1010.setTop (mkF m 33 #[.val (.int p1), .val (.int p2), .val (.int p3), .val (.int tt), .val (.int ln), .unset, .unset, .unset, .unset, .unset, .unset, .unset, .unset, .unset, .unset, .unset, .unset, .unset, .unset] [(.int (0 : Int32))])) _
      exact tl33_1011 _ _ (0 : Int32) ⟨_, _, _, Xj1010, ej1010, hSj1010, hkj1010, hZj1010, hownj1010, CRj1010, Oj1010, KPj1010, Zj1010, Nj1010⟩
    · refine own_back (fun t k => XS.ifNo Xj1010.here hx rfl (hb hby at_25) rfl (Jvm.Free.XT.i0_eq_f hc25_1375) k) ?_
      show OwnGo p e below (Tj1010.setTop (mkF m 28 #[.val (.int p1), .val (.int p2), .val (.int p3), .val (.int tt), .val (.int ln), .unset, .unset, .unset, .unset, .unset, .unset, .unset, .unset, .unset, .unset, .unset, .unset, .unset, .unset] [])) _
      refine own_back (fun t k => XS.iconst Xj1010.here hx rfl (hb hby at_28) k) ?_
      show OwnGo p e below (Tj1010.setTop (mkF m 29 #[.val (.int p1), .val (.int p2), .val (.int p3), .val (.int tt), .val (.int ln), .unset, .unset, .unset, .unset, .unset, .unset, .unset, .unset, .unset, .unset, .unset, .unset, .unset, .unset] [(.int (1 : Int32))])) _
      refine own_back (fun t k => XS.goto Xj1010.here hx rfl (pc0 := 29) (pc' := 33) rfl (hb hby at_29) (by decide) (by decide) k) ?_
      show OwnGo p e below (Tj1010.setTop (mkF m 33 #[.val (.int p1), .val (.int p2), .val (.int p3), .val (.int tt), .val (.int ln), .unset, .unset, .unset, .unset, .unset, .unset, .unset, .unset, .unset, .unset, .unset, .unset, .unset, .unset] [(.int (1 : Int32))])) _
      exact tl33_1011 _ _ (1 : Int32) ⟨_, _, _, Xj1010, ej1010, hSj1010, hkj1010, hZj1010, hownj1010, CRj1010, Oj1010, KPj1010, Zj1010, Nj1010⟩
  by_cases hc3_1376 : (p1 &&& (1 : Int32)) = (0 : Int32)
  · refine own_back (fun t k => XS.ifYes X0.here hx rfl (pc0 := 3) (pc' := 10) rfl (hb hby at_3) rfl (Jvm.Free.XT.i0_eq_t hc3_1376) (by decide) (by decide) k) ?_
    show OwnGo p e below (s₁.setTop (mkF m 10 #[.val (.int p1), .val (.int p2), .val (.int p3), .unset, .unset, .unset, .unset, .unset, .unset, .unset, .unset, .unset, .unset, .unset, .unset, .unset, .unset, .unset, .unset] [])) _
    refine own_back (fun t k => XS.iconst X0.here hx rfl (hb hby at_10) k) ?_
    show OwnGo p e below (s₁.setTop (mkF m 11 #[.val (.int p1), .val (.int p2), .val (.int p3), .unset, .unset, .unset, .unset, .unset, .unset, .unset, .unset, .unset, .unset, .unset, .unset, .unset, .unset, .unset, .unset] [(.int (0 : Int32))])) _
    exact tl11_1010 _ _ (0 : Int32) ⟨_, _, _, X0, e0, hS0, hk0, hZ, hown, CR0, OL, KP0, Z0, N0⟩
  · refine own_back (fun t k => XS.ifNo X0.here hx rfl (hb hby at_3) rfl (Jvm.Free.XT.i0_eq_f hc3_1376) k) ?_
    show OwnGo p e below (s₁.setTop (mkF m 6 #[.val (.int p1), .val (.int p2), .val (.int p3), .unset, .unset, .unset, .unset, .unset, .unset, .unset, .unset, .unset, .unset, .unset, .unset, .unset, .unset, .unset, .unset] [])) _
    refine own_back (fun t k => XS.iconst X0.here hx rfl (hb hby at_6) k) ?_
    show OwnGo p e below (s₁.setTop (mkF m 7 #[.val (.int p1), .val (.int p2), .val (.int p3), .unset, .unset, .unset, .unset, .unset, .unset, .unset, .unset, .unset, .unset, .unset, .unset, .unset, .unset, .unset, .unset] [(.int (1 : Int32))])) _
    refine own_back (fun t k => XS.goto X0.here hx rfl (pc0 := 7) (pc' := 11) rfl (hb hby at_7) (by decide) (by decide) k) ?_
    show OwnGo p e below (s₁.setTop (mkF m 11 #[.val (.int p1), .val (.int p2), .val (.int p3), .unset, .unset, .unset, .unset, .unset, .unset, .unset, .unset, .unset, .unset, .unset, .unset, .unset, .unset, .unset, .unset] [(.int (1 : Int32))])) _
    exact tl11_1010 _ _ (1 : Int32) ⟨_, _, _, X0, e0, hS0, hk0, hZ, hown, CR0, OL, KP0, Z0, N0⟩
set_option maxRecDepth 65536 in
set_option maxHeartbeats 40000000 in
theorem comes_1 {Post : Tables → Env → Array Value → State → Outcome → State → Prop} (hpost : ∀ tb e args s v u, (limb_1_1.after args s (.returned v) u = true ∧ limb_1_2.after args s (.returned v) u = true ∧ True) → ReturnedEndW s (.returned v) u (Jvm.fieldLocs frame_1_writes args s ++ Jvm.arrayLocs frame_1_arrays args s ++ Jvm.staticLocs frame_1_statics s) 24 1216 → Post tb e args s (.returned v) u) :
    ArmFor flags0 classFile x code maxLocals ret World_1 tables_1 room_1 Calls_1 rest_1 Pre_1 Post := by
  intro l hfl _ _ p e ha hc hk s m args below hf hA hF happ hP
  obtain ⟨hcalls, hrest, hpre⟩ := hP
  obtain ⟨-, -, -, hnamed, -, -, -, hat⟩ := (Spec.applies_iff hf).mp happ
  obtain ⟨hg, hn⟩ := and_e (Cond.before_iff.mp (show (Jvm.Cond.and given_1 narrow_1).before args s = true from hpre))
  obtain ⟨g1, g2⟩ := and_e hg
  obtain ⟨g3, g4⟩ := and_e g2
  obtain ⟨g5, g6⟩ := and_e g4
  obtain ⟨g7, g8⟩ := and_e hn
  obtain ⟨g9, g10⟩ := and_e g8
  obtain ⟨g11, g12⟩ := and_e g10
  obtain ⟨g13, g14⟩ := and_e g12
  obtain ⟨g15, g16⟩ := and_e g14
  obtain ⟨g17, g18⟩ := and_e g16
  obtain ⟨g19, g20⟩ := and_e g18
  obtain ⟨g21, g22⟩ := and_e g20
  obtain ⟨g23, g24⟩ := and_e g22
  obtain ⟨g25, g26⟩ := and_e g24
  obtain ⟨g27, g28⟩ := and_e g26
  obtain ⟨g29, g30⟩ := and_e g28
  obtain ⟨g31, g32⟩ := and_e g30
  obtain ⟨g33, g34⟩ := and_e g32
  obtain ⟨g35, g36⟩ := and_e g34
  obtain ⟨g37, g38⟩ := and_e g36
  obtain ⟨g39, g40⟩ := and_e g38
  obtain ⟨g41, g42⟩ := and_e g40
  obtain ⟨g43, g44⟩ := and_e g42
  obtain ⟨g45, g46⟩ := and_e g44
  obtain ⟨g47, g48⟩ := and_e g46
  obtain ⟨g49, g50⟩ := and_e g48
  obtain ⟨g51, g52⟩ := and_e g50
  obtain ⟨g53, g54⟩ := and_e g52
  obtain ⟨w0, w1, w2, rfl⟩ : ∃ w0 w1 w2 : Value, args = #[w0, w1, w2] := by
    have hs : args.size = 3 := by simpa [Cond.value, given_1] using g1
    obtain ⟨L⟩ := args
    match L, hs with
    | [w0, w1, w2], _ => exact ⟨w0, w1, w2, rfl⟩
  have hw := fun d (hd : d ∈ tables_1) => atoms_spec (ws := Jvm.Cond.code x code maxLocals ret :: tables_1) hat d (List.mem_cons_of_mem _ hd)
  have hfit : Fit s := fun {y c} hc i hi => by
    obtain ⟨ha, rfl⟩ := Array.getElem?_eq_some_iff.mp hc
    have q := List.all_eq_true.mp ((Array.all_eq_true_iff_forall_mem.mp hF) _ (Array.getElem_mem ha)) i (List.mem_range.mpr hi)
    simpa [Array.getElem?_eq_getElem hi] using q
  obtain ⟨hsets, hown0⟩ := atoms_of _ (rest_1_c_eq ▸ (show rest_1_c.before _ s = true from hrest))
  have hr0 := Cond.before_iff.mp hown0
  obtain ⟨i0, ei0⟩ := is_v g3
  obtain rfl : w0 = (.int i0) := Option.some.inj ei0
  obtain ⟨i1, ei1⟩ := is_v g5
  obtain rfl : w1 = (.int i1) := Option.some.inj ei1
  obtain ⟨i2, ei2⟩ := is_v g6
  obtain rfl : w2 = (.int i2) := Option.some.inj ei2
  obtain ⟨wP, vP⟩ := exa_v g13
  have SP : Sta s s.heap "com/example/indexwright/indexwright/bond/BondVariant" "PRICE" "Lcom/example/indexwright/indexwright/bond/BondVariant;" (.ref wP) := Sta.start vP (Or.inr ⟨(hw _ (List.mem_of_getElem? (i := 28) rfl)), (hw _ (List.mem_of_getElem? (i := 42) rfl))⟩)
  have EEP : Exa s s.heap wP "com/example/indexwright/indexwright/bond/BondVariant" := Exa.start vP g13
  obtain ⟨wT, vT⟩ := exa_v g17
  have ST : Sta s s.heap "com/example/indexwright/indexwright/bond/BondVariant" "TOTAL" "Lcom/example/indexwright/indexwright/bond/BondVariant;" (.ref wT) := Sta.start vT (Or.inr ⟨(hw _ (List.mem_of_getElem? (i := 28) rfl)), (hw _ (List.mem_of_getElem? (i := 43) rfl))⟩)
  have EET : Exa s s.heap wT "com/example/indexwright/indexwright/bond/BondVariant" := Exa.start vT g17
  obtain ⟨wV, vV⟩ := arr_v g7
  have SV : Sta s s.heap "com/example/indexwright/indexwright/bond/BondVariant" "$VALUES" "[Lcom/example/indexwright/indexwright/bond/BondVariant;" (.ref wV) := Sta.start vV (Or.inl (hw _ (List.mem_of_getElem? (i := 44) rfl)))
  obtain ⟨cV, AV0⟩ := Arr.start vV g7
  have nV := own_len AV0 vV g11
  have AV : Arv s s.heap wV cV.cls (.object "com/example/indexwright/indexwright/bond/BondVariant") 2 [.ref wP, .ref wT] .null := Arv.start hfit AV0 (by rw [nV]; decide) (by rw [nV]; rfl) (by decide) rfl ⟨own_elemR AV0 vV vP g15 (by decide), own_elemR AV0 vV vT g19 (by decide), trivial⟩
  have EV : Exa s s.heap wV "[Lcom/example/indexwright/indexwright/bond/BondVariant;" := Exa.start vV g9
  have FV : ∀ c, s.heap[wV]? = some c → FitC s c := fun c hc => by
    cases AV0.1.symm.trans hc
    exact FitC.start hfit AV0
  obtain ⟨kP, ekP⟩ := exa_v g21
  have FP : Fld s s.heap wP "com/example/indexwright/indexwright/bond/BondVariant" "key" "Ljava/lang/String;" (.ref kP) := Fld.start ((fld_at vP).symm.trans ekP)
  have BP : OwnStr s s.heap kP [112, 114, 105, 99, 101] := by
    obtain ⟨tv, ev⟩ := arr_v g25
    obtain ⟨cv, Av⟩ := Arr.start ev g25
    have nn := own_len Av ev g27
    exact ⟨tv, cv.cls, Exa.start ekP g21, Fld.start ((fld_at ekP).symm.trans (own_eqint g23)), Fld.start ((fld_at ekP).symm.trans ev), Arv.start hfit Av (by rw [nn]; decide) (by rw [nn]; rfl) (by decide) rfl ⟨own_elem Av ev g37 (by decide), own_elem Av ev g39 (by decide), own_elem Av ev g41 (by decide), own_elem Av ev g43 (by decide), own_elem Av ev g45 (by decide), trivial⟩, Nat.le_of_ble_eq_true rfl⟩
  obtain ⟨kT, ekT⟩ := exa_v g29
  have FT : Fld s s.heap wT "com/example/indexwright/indexwright/bond/BondVariant" "key" "Ljava/lang/String;" (.ref kT) := Fld.start ((fld_at vT).symm.trans ekT)
  have BT : OwnStr s s.heap kT [116, 111, 116, 97, 108] := by
    obtain ⟨tv, ev⟩ := arr_v g33
    obtain ⟨cv, Av⟩ := Arr.start ev g33
    have nn := own_len Av ev g35
    exact ⟨tv, cv.cls, Exa.start ekT g29, Fld.start ((fld_at ekT).symm.trans (own_eqint g31)), Fld.start ((fld_at ekT).symm.trans ev), Arv.start hfit Av (by rw [nn]; decide) (by rw [nn]; rfl) (by decide) rfl ⟨own_elem Av ev g47 (by decide), own_elem Av ev g49 (by decide), own_elem Av ev g51 (by decide), own_elem Av ev g53 (by decide), own_elem Av ev g54 (by decide), trivial⟩, Nat.le_of_ble_eq_true rfl⟩
  obtain ⟨cz, ecz⟩ := is_v (Cond.before_iff.mp (hsets _ (List.mem_of_getElem? (i := 1) rfl)))
  have SC : Sta s s.heap "java/lang/String" "COMPACT_STRINGS" "Z" (.int cz) := Sta.start ecz (Or.inl (hsets _ (List.mem_of_getElem? (i := 0) rfl)))
  have ncz := not_v (Cond.before_iff.mp (hsets _ (List.mem_of_getElem? (i := 2) rfl)))
  have hcz : ¬ (cz = (0 : Int32)) := gotF (Cond.eq_ints ecz (Term.int_eval (0))) ncz
  have hCH : CHv s own_EL s.vm s.heap := CHv.start (own_EW hw) (fun p hp => hcalls.1 p hp) (hsets _ (List.mem_of_getElem? (i := 2) rfl)) (hw _ (List.mem_of_getElem? (i := 19) rfl)) (hw _ (List.mem_of_getElem? (i := 6) rfl))
  obtain ⟨n, o, h1, h2, h3, _, L, rfl, ⟨rfl, N⟩, -, hq⟩ := rm_law l s _ hw tables_1 i0 i1 i2 wP wT wV cV.cls kP kT cz s.heap s.heap.size (Nat.le_refl _) (Old.start s) SP ST SV AV EV FV FP FT BP BT SC hcz p e ha hc hk s m _ below hf ((Spec.applies_iff_loose hf).mp happ).1 ⟨rfl, State.Warmed39.refl s, rfl, hCH, fun _ q => nomatch q⟩ trivial
  refine ⟨n, _, h1, h2, h3, hpost _ _ _ _ _ _ ⟨Cond.after_iff.mpr rfl, Cond.after_iff.mpr (eq_i res_at (Term.int_eval (1)) rfl), trivial⟩ ⟨hq.1, hq.2.1, hq.2.2.1, (hq.2.2.2.sift fun y hy => Or.inr (N y hy)).mono (by decide) (by decide)⟩⟩
theorem main_1_1 : Claimed_1_1 := comes_1 fun _ _ _ _ _ _ h hF => ⟨h.1, hF⟩
theorem main_1_2 : Claimed_1_2 := comes_1 fun _ _ _ _ _ _ h hF => ⟨h.2.1, hF⟩
end Jvm.Pilot.@@N@@
namespace Jvm.Pilot.@@N@@
open Jvm Jvm.ClassFile Sem Op Lib Jvm.Free Jvm.Stand Jvm.Pilot.@@N@@.Jvm.D
/-! MADE BY PROGRAM (witnessworld.py) out of the Statement's table words and the real class files: 22 classes; the members and pool entries that the words name. The judged class is class 1, her method 2. -/
namespace start1
open Jvm.ClassFile
def u (s : String) : CpInfo := .utf8 (stringToUtf16 s)
/-- a pool by its gaps: so many unusable entries, then the entry; so many at the end -/
def gap : Nat → List CpInfo → List CpInfo
  | 0, r => r
  | n + 1, r => .unusable :: gap n r
def poolList (es : List (Nat × CpInfo)) (last : Nat) : List CpInfo := es.foldr (fun e r => gap e.1 (e.2 :: r)) (gap last [])
def pool (es : List (Nat × CpInfo)) (last : Nat) : Array CpInfo := ⟨poolList es last⟩
def fileOf (pool : Array CpInfo) (this : Nat) (attrs : Array Attribute := #[]) (ms : Array MethodInfo := #[]) (fl : Nat := 33) (sup : Nat := 0) (ifs : Array Nat := #[]) (fds : Array FieldInfo := #[]) : ClassFile where
  minorVersion := 0
  majorVersion := 65
  constantPool := pool
  accessFlags := fl
  thisClass := this
  superClass := sup
  interfaces := ifs
  fields := fds
  methods := ms
  attributes := attrs
def plain (name : String) (sup : Option ClassId) : Class where
  name := name
  kind := .ordinary
  loader := none
  accessFlags := 33
  super := sup
  interfaces := #[]
  cf := none
  fields := #[]
  methods := #[]
  instanceTypes := #[]
  staticTypes := #[]
  resolved := #[]
  callSites := []
  init := .initialized
  statics := none
  mirror := none

def pool0 : Array CpInfo := pool [(5, u "<init>"), (0, u "()V"), (1, .class_ 10), (1, u "java/lang/Object"), (85, u "clone"), (0, u "()Ljava/lang/Object;")] 26

def k0c0 : Code := { maxStack := 0, maxLocals := 1, code := object_method_1_code, exceptionTable := #[], attributes := #[] }
def k0m0 : Method := { name := "<init>", desc := "()V", sig := { parameters := [], returnType := none }, accessFlags := 1, code := some k0c0 }
def k0m1 : Method := { name := "clone", desc := "()Ljava/lang/Object;", sig := { parameters := [], returnType := some (.object "java/lang/Object") }, accessFlags := 260, code := none }
/-- java/lang/Object -/
def k0 : Class := { plain "java/lang/Object" none with
  accessFlags := 33
  interfaces := #[]
  cf := some (fileOf pool0 8 #[] #[{ accessFlags := 1, nameIndex := 5, descriptorIndex := 6, attributes := #[] }, { accessFlags := 260, nameIndex := 96, descriptorIndex := 97, attributes := #[] }] 33 0 #[] #[])
  fields := #[]
  methods := #[k0m0, k0m1]
  instanceTypes := #[]
  staticTypes := #[]
  resolved := Array.replicate 124 none
  statics := none }

def pool1 : Array CpInfo := pool [(2, .class_ 4), (1, u "java/lang/Object"), (0, u "<init>"), (0, u "()V"), (0, .class_ 8), (0, u "java/lang/String"), (0, .methodref 7 10), (0, .nameAndType 5 11), (0, u "([C)V"), (0, .methodref 13 14), (0, .class_ 15), (0, .nameAndType 16 17), (0, u "com/example/indexwright/indexwright/bond/BondVariantOfPinLaw"), (0, u "make"), (0, u "([CI)Ljava/lang/String;"), (0, .methodref 19 20), (0, .class_ 21), (0, .nameAndType 22 23), (0, u "com/example/indexwright/indexwright/bond/BondVariant"), (0, u "of"), (0, u "(Ljava/lang/String;)Lcom/example/indexwright/indexwright/bond/BondVariant;"), (0, .fieldref 19 25), (0, .nameAndType 26 27), (0, u "PRICE"), (0, u "Lcom/example/indexwright/indexwright/bond/BondVariant;"), (0, .fieldref 19 29), (0, .nameAndType 30 27), (0, u "TOTAL"), (3, u "law"), (0, u "(III)Z")] 4

def k1m0 : Method := { name := "<init>", desc := "()V", sig := { parameters := [], returnType := none }, accessFlags := 1, code := none }
def k1c1 : Code := { maxStack := 7, maxLocals := 2, code := method_2_code, exceptionTable := #[], attributes := #[] }
def k1m1 : Method := { name := "make", desc := "([CI)Ljava/lang/String;", sig := { parameters := [(.array .char), .int], returnType := some (.object "java/lang/String") }, accessFlags := 10, code := some k1c1 }
def k1c2 : Code := { maxStack := 4, maxLocals := 19, code := code, exceptionTable := #[], attributes := #[] }
def k1m2 : Method := { name := "law", desc := "(III)Z", sig := { parameters := [.int, .int, .int], returnType := some .boolean }, accessFlags := 9, code := some k1c2 }
/-- com/example/indexwright/indexwright/bond/BondVariantOfPinLaw -/
def k1 : Class := { plain "com/example/indexwright/indexwright/bond/BondVariantOfPinLaw" (some 0) with
  accessFlags := 49
  interfaces := #[]
  cf := some (fileOf pool1 13 #[] #[{ accessFlags := 1, nameIndex := 5, descriptorIndex := 6, attributes := #[] }, { accessFlags := 10, nameIndex := 16, descriptorIndex := 17, attributes := #[] }, { accessFlags := 9, nameIndex := 34, descriptorIndex := 35, attributes := #[] }] 49 2 #[] #[])
  fields := #[]
  methods := #[k1m0, k1m1, k1m2]
  instanceTypes := #[]
  staticTypes := #[]
  resolved := Array.replicate 40 none
  statics := none }

def pool2 : Array CpInfo := pool [(1, .class_ 2), (0, u "java/io/Serializable"), (0, .class_ 4), (0, u "java/lang/Object")] 2

/-- java/io/Serializable -/
def k2 : Class := { plain "java/io/Serializable" (some 0) with
  accessFlags := 1537
  interfaces := #[]
  cf := some (fileOf pool2 1 #[] #[] 1537 3 #[] #[])
  fields := #[]
  methods := #[]
  instanceTypes := #[]
  staticTypes := #[]
  resolved := Array.replicate 7 none
  statics := none }

def pool3 : Array CpInfo := pool [(1, .class_ 2), (0, u "java/lang/Comparable"), (0, .class_ 4), (0, u "java/lang/Object")] 7

/-- java/lang/Comparable -/
def k3 : Class := { plain "java/lang/Comparable" (some 0) with
  accessFlags := 1537
  interfaces := #[]
  cf := some (fileOf pool3 1 #[] #[] 1537 3 #[] #[])
  fields := #[]
  methods := #[]
  instanceTypes := #[]
  staticTypes := #[]
  resolved := Array.replicate 12 none
  statics := none }

def pool4 : Array CpInfo := pool [(2, .class_ 4), (1, u "java/lang/CharSequence"), (42, .class_ 48), (0, u "java/lang/CharSequence$1CodePointIterator"), (10, .class_ 60), (0, u "java/lang/CharSequence$1CharIterator"), (5, .class_ 67), (0, u "java/lang/Object")] 63

/-- java/lang/CharSequence -/
def k4 : Class := { plain "java/lang/CharSequence" (some 0) with
  accessFlags := 1537
  interfaces := #[]
  cf := some (fileOf pool4 2 #[.nestMembers #[47, 59]] #[] 1537 66 #[] #[])
  fields := #[]
  methods := #[]
  instanceTypes := #[]
  staticTypes := #[]
  resolved := Array.replicate 131 none
  statics := none }

def pool5 : Array CpInfo := pool [(1, .class_ 2), (0, u "java/lang/constant/Constable"), (0, .class_ 4), (0, u "java/lang/Object")] 6

/-- java/lang/constant/Constable -/
def k5 : Class := { plain "java/lang/constant/Constable" (some 0) with
  accessFlags := 1537
  interfaces := #[]
  cf := some (fileOf pool5 1 #[] #[] 1537 3 #[] #[])
  fields := #[]
  methods := #[]
  instanceTypes := #[]
  staticTypes := #[]
  resolved := Array.replicate 11 none
  statics := none }

def pool6 : Array CpInfo := pool [(1, .class_ 2), (0, u "java/lang/constant/ConstantDesc"), (0, .class_ 4), (0, u "java/lang/Object")] 32

/-- java/lang/constant/ConstantDesc -/
def k6 : Class := { plain "java/lang/constant/ConstantDesc" (some 0) with
  accessFlags := 1537
  interfaces := #[]
  cf := some (fileOf pool6 1 #[] #[] 1537 3 #[] #[])
  fields := #[]
  methods := #[]
  instanceTypes := #[]
  staticTypes := #[]
  resolved := Array.replicate 37 none
  statics := none }

def pool7 : Array CpInfo := pool [(1, .methodref 2 3), (0, .class_ 4), (0, .nameAndType 5 6), (0, u "java/lang/Object"), (0, u "<init>"), (0, u "()V"), (0, .string 8), (0, u ""), (0, .fieldref 10 11), (0, .class_ 12), (0, .nameAndType 13 14), (0, u "java/lang/String"), (0, u "value"), (0, u "[B"), (0, .fieldref 10 16), (0, .nameAndType 17 18), (0, u "coder"), (0, u "B"), (2, u "hash"), (0, u "I"), (2, u "hashIsZero"), (0, u "Z"), (0, .methodref 10 28), (0, .nameAndType 5 29), (0, u "([CIILjava/lang/Void;)V"), (8, .fieldref 10 39), (0, .nameAndType 40 26), (0, u "COMPACT_STRINGS"), (1, .class_ 44), (1, u "java/lang/StringUTF16"), (0, u "compress"), (1, .methodref 42 48), (0, .nameAndType 49 50), (0, u "coderFromArrayLen"), (0, u "([BI)B"), (56, .class_ 109), (1, u "java/lang/StringLatin1"), (67, .methodref 42 178), (0, .nameAndType 45 179), (0, u "([CII)[B"), (361, .methodref 107 542), (0, .nameAndType 543 544), (0, u "equals"), (0, u "([B[B)Z"), (28, u "(Ljava/lang/Object;)Z"), (1, .class_ 576), (0, u "java/lang/CharSequence"), (22, u "CASE_INSENSITIVE_ORDER"), (0, u "Ljava/util/Comparator;"), (409, u "([C)V"), (90, u "serialPersistentFields"), (0, u "[Ljava/io/ObjectStreamField;"), (0, .class_ 1104), (0, u "java/lang/String$CaseInsensitiveComparator"), (1, .class_ 1107), (0, u "java/io/Serializable"), (0, .class_ 1109), (0, u "java/lang/Comparable"), (0, .class_ 1111), (0, u "java/lang/constant/Constable"), (0, .class_ 1113), (0, u "java/lang/constant/ConstantDesc"), (2, u "serialVersionUID"), (0, u "J"), (3, u "REPL"), (0, u "C"), (2, u "LATIN1"), (1, u "UTF16")] 323

def k7m0 : Method := { name := "<init>", desc := "()V", sig := { parameters := [], returnType := none }, accessFlags := 1, code := none }
def k7c1 : Code := { maxStack := 5, maxLocals := 2, code := jdk_42_method_3_code, exceptionTable := #[], attributes := #[] }
def k7m1 : Method := { name := "<init>", desc := "([C)V", sig := { parameters := [(.array .char)], returnType := none }, accessFlags := 1, code := some k7c1 }
def k7c2 : Code := { maxStack := 2, maxLocals := 3, code := jdk_42_method_66_code, exceptionTable := #[], attributes := #[] }
def k7m2 : Method := { name := "equals", desc := "(Ljava/lang/Object;)Z", sig := { parameters := [(.object "java/lang/Object")], returnType := some .boolean }, accessFlags := 1, code := some k7c2 }
def k7c3 : Code := { maxStack := 4, maxLocals := 6, code := jdk_42_method_149_code, exceptionTable := #[], attributes := #[] }
def k7m3 : Method := { name := "<init>", desc := "([CIILjava/lang/Void;)V", sig := { parameters := [(.array .char), .int, .int, (.object "java/lang/Void")], returnType := none }, accessFlags := 2, code := some k7c3 }
/-- java/lang/String -/
def k7 : Class := { plain "java/lang/String" (some 0) with
  accessFlags := 49
  interfaces := #[2, 3, 4, 5, 6]
  cf := some (fileOf pool7 10 #[.nestMembers #[1103]] #[{ accessFlags := 1, nameIndex := 5, descriptorIndex := 6, attributes := #[] }, { accessFlags := 1, nameIndex := 5, descriptorIndex := 1010, attributes := #[] }, { accessFlags := 1, nameIndex := 543, descriptorIndex := 573, attributes := #[] }, { accessFlags := 2, nameIndex := 5, descriptorIndex := 29, attributes := #[] }] 49 2 #[1106, 1108, 575, 1110, 1112] #[{ accessFlags := 18, nameIndex := 13, descriptorIndex := 14, attributes := #[] }, { accessFlags := 18, nameIndex := 17, descriptorIndex := 18, attributes := #[] }, { accessFlags := 2, nameIndex := 21, descriptorIndex := 22, attributes := #[] }, { accessFlags := 2, nameIndex := 25, descriptorIndex := 26, attributes := #[] }, { accessFlags := 26, nameIndex := 1116, descriptorIndex := 1117, attributes := #[] }, { accessFlags := 24, nameIndex := 40, descriptorIndex := 26, attributes := #[] }, { accessFlags := 26, nameIndex := 1101, descriptorIndex := 1102, attributes := #[] }, { accessFlags := 26, nameIndex := 1121, descriptorIndex := 1122, attributes := #[] }, { accessFlags := 25, nameIndex := 599, descriptorIndex := 600, attributes := #[] }, { accessFlags := 24, nameIndex := 1125, descriptorIndex := 18, attributes := #[] }, { accessFlags := 24, nameIndex := 1127, descriptorIndex := 18, attributes := #[] }])
  fields := #[{ name := "value", type := (.array .byte), accessFlags := 18, slot := 0, constantValue := 0 }, { name := "coder", type := .byte, accessFlags := 18, slot := 1, constantValue := 0 }, { name := "hash", type := .int, accessFlags := 2, slot := 2, constantValue := 0 }, { name := "hashIsZero", type := .boolean, accessFlags := 2, slot := 3, constantValue := 0 }, { name := "serialVersionUID", type := .long, accessFlags := 26, slot := 0, constantValue := 0 }, { name := "COMPACT_STRINGS", type := .boolean, accessFlags := 24, slot := 1, constantValue := 0 }, { name := "serialPersistentFields", type := (.array (.object "java/io/ObjectStreamField")), accessFlags := 26, slot := 2, constantValue := 0 }, { name := "REPL", type := .char, accessFlags := 26, slot := 3, constantValue := 0 }, { name := "CASE_INSENSITIVE_ORDER", type := (.object "java/util/Comparator"), accessFlags := 25, slot := 4, constantValue := 0 }, { name := "LATIN1", type := .byte, accessFlags := 24, slot := 5, constantValue := 0 }, { name := "UTF16", type := .byte, accessFlags := 24, slot := 6, constantValue := 0 }]
  methods := #[k7m0, k7m1, k7m2, k7m3]
  instanceTypes := #[(.array .byte), .byte, .int, .boolean]
  staticTypes := #[.long, .boolean, (.array (.object "java/io/ObjectStreamField")), .char, (.object "java/util/Comparator"), .byte, .byte]
  resolved := Array.replicate 1451 none
  statics := some 0 }

def pool8 : Array CpInfo := pool [(2, .class_ 4), (1, u "java/lang/Enum"), (0, u "name"), (0, u "Ljava/lang/String;"), (2, u "ordinal"), (0, u "I"), (1, .class_ 14), (1, u "java/lang/Object"), (4, u "hash"), (86, .class_ 108), (1, u "java/lang/Enum$EnumDesc"), (2, .class_ 112), (0, u "java/lang/constant/Constable"), (0, .class_ 114), (0, u "java/lang/Comparable"), (0, .class_ 116), (0, u "java/io/Serializable")] 87

/-- java/lang/Enum -/
def k8 : Class := { plain "java/lang/Enum" (some 0) with
  accessFlags := 1057
  interfaces := #[5, 3, 2]
  cf := some (fileOf pool8 2 #[.nestMembers #[106]] #[] 1057 12 #[111, 113, 115] #[{ accessFlags := 18, nameIndex := 5, descriptorIndex := 6, attributes := #[] }, { accessFlags := 18, nameIndex := 9, descriptorIndex := 10, attributes := #[] }, { accessFlags := 2, nameIndex := 19, descriptorIndex := 10, attributes := #[] }])
  fields := #[{ name := "name", type := (.object "java/lang/String"), accessFlags := 18, slot := 0, constantValue := 0 }, { name := "ordinal", type := .int, accessFlags := 18, slot := 1, constantValue := 0 }, { name := "hash", type := .int, accessFlags := 2, slot := 2, constantValue := 0 }]
  methods := #[]
  instanceTypes := #[(.object "java/lang/String"), .int, .int]
  staticTypes := #[]
  resolved := Array.replicate 204 none
  statics := none }

def pool9 : Array CpInfo := pool [(1, .class_ 2), (0, u "com/example/indexwright/indexwright/bond/BondVariant"), (2, u "PRICE"), (0, u "Lcom/example/indexwright/indexwright/bond/BondVariant;"), (2, u "TOTAL"), (0, .fieldref 1 11), (0, .nameAndType 12 13), (0, u "$VALUES"), (0, u "[Lcom/example/indexwright/indexwright/bond/BondVariant;"), (0, .methodref 15 16), (0, .class_ 13), (0, .nameAndType 17 18), (0, u "clone"), (0, u "()Ljava/lang/Object;"), (1, .class_ 22), (1, u "java/lang/Enum"), (6, .fieldref 1 30), (0, .nameAndType 31 32), (0, u "key"), (0, u "Ljava/lang/String;"), (0, .methodref 1 34), (0, .nameAndType 35 36), (0, u "values"), (0, u "()[Lcom/example/indexwright/indexwright/bond/BondVariant;"), (0, .methodref 38 39), (0, .class_ 40), (0, .nameAndType 41 42), (0, u "java/lang/String"), (0, u "equals"), (0, u "(Ljava/lang/Object;)Z"), (14, u "(Ljava/lang/String;)Lcom/example/indexwright/indexwright/bond/BondVariant;"), (4, u "of")] 10

def k9c0 : Code := { maxStack := 1, maxLocals := 0, code := prog_6_method_1_code, exceptionTable := #[], attributes := #[] }
def k9m0 : Method := { name := "values", desc := "()[Lcom/example/indexwright/indexwright/bond/BondVariant;", sig := { parameters := [], returnType := some (.array (.object "com/example/indexwright/indexwright/bond/BondVariant")) }, accessFlags := 9, code := some k9c0 }
def k9c1 : Code := { maxStack := 2, maxLocals := 5, code := prog_6_method_5_code, exceptionTable := #[], attributes := #[] }
def k9m1 : Method := { name := "of", desc := "(Ljava/lang/String;)Lcom/example/indexwright/indexwright/bond/BondVariant;", sig := { parameters := [(.object "java/lang/String")], returnType := some (.object "com/example/indexwright/indexwright/bond/BondVariant") }, accessFlags := 8, code := some k9c1 }
/-- com/example/indexwright/indexwright/bond/BondVariant -/
def k9 : Class := { plain "com/example/indexwright/indexwright/bond/BondVariant" (some 8) with
  accessFlags := 16433
  interfaces := #[]
  cf := some (fileOf pool9 1 #[] #[{ accessFlags := 9, nameIndex := 35, descriptorIndex := 36, attributes := #[] }, { accessFlags := 8, nameIndex := 62, descriptorIndex := 57, attributes := #[] }] 16433 20 #[] #[{ accessFlags := 16409, nameIndex := 5, descriptorIndex := 6, attributes := #[] }, { accessFlags := 16409, nameIndex := 9, descriptorIndex := 6, attributes := #[] }, { accessFlags := 18, nameIndex := 31, descriptorIndex := 32, attributes := #[] }, { accessFlags := 4122, nameIndex := 12, descriptorIndex := 13, attributes := #[] }])
  fields := #[{ name := "PRICE", type := (.object "com/example/indexwright/indexwright/bond/BondVariant"), accessFlags := 16409, slot := 0, constantValue := 0 }, { name := "TOTAL", type := (.object "com/example/indexwright/indexwright/bond/BondVariant"), accessFlags := 16409, slot := 1, constantValue := 0 }, { name := "key", type := (.object "java/lang/String"), accessFlags := 18, slot := 3, constantValue := 0 }, { name := "$VALUES", type := (.array (.object "com/example/indexwright/indexwright/bond/BondVariant")), accessFlags := 4122, slot := 2, constantValue := 0 }]
  methods := #[k9m0, k9m1]
  instanceTypes := #[(.object "java/lang/String"), .int, .int, (.object "java/lang/String")]
  staticTypes := #[(.object "com/example/indexwright/indexwright/bond/BondVariant"), (.object "com/example/indexwright/indexwright/bond/BondVariant"), (.array (.object "com/example/indexwright/indexwright/bond/BondVariant"))]
  resolved := Array.replicate 73 none
  statics := some 1 }

def pool10 : Array CpInfo := pool [(1, .class_ 2), (0, u "java/lang/Cloneable"), (0, .class_ 4), (0, u "java/lang/Object")] 2

/-- java/lang/Cloneable -/
def k10 : Class := { plain "java/lang/Cloneable" (some 0) with
  accessFlags := 1537
  interfaces := #[]
  cf := some (fileOf pool10 1 #[] #[] 1537 3 #[] #[])
  fields := #[]
  methods := #[]
  instanceTypes := #[]
  staticTypes := #[]
  resolved := Array.replicate 7 none
  statics := none }

def pool11 : Array CpInfo := pool [(4, .class_ 6), (1, u "java/lang/Object"), (0, u "<init>"), (0, u "()V"), (5, .class_ 16), (1, u "java/lang/StringLatin1"), (104, u "$assertionsDisabled"), (0, u "Z"), (98, .class_ 223), (1, u "java/lang/StringLatin1$LinesSpliterator"), (57, u "equals"), (0, u "([B[B)Z"), (107, .class_ 391), (0, u "java/lang/StringLatin1$CharsSpliterator")] 3

def k11m0 : Method := { name := "<init>", desc := "()V", sig := { parameters := [], returnType := none }, accessFlags := 0, code := none }
def k11c1 : Code := { maxStack := 3, maxLocals := 3, code := jdk_43_method_13_code, exceptionTable := #[], attributes := #[] }
def k11m1 : Method := { name := "equals", desc := "([B[B)Z", sig := { parameters := [(.array .byte), (.array .byte)], returnType := some .boolean }, accessFlags := 9, code := some k11c1 }
/-- java/lang/StringLatin1 -/
def k11 : Class := { plain "java/lang/StringLatin1" (some 0) with
  accessFlags := 48
  interfaces := #[]
  cf := some (fileOf pool11 14 #[.nestMembers #[390, 221]] #[{ accessFlags := 0, nameIndex := 7, descriptorIndex := 8, attributes := #[] }, { accessFlags := 9, nameIndex := 281, descriptorIndex := 282, attributes := #[] }] 48 4 #[] #[{ accessFlags := 4120, nameIndex := 121, descriptorIndex := 122, attributes := #[] }])
  fields := #[{ name := "$assertionsDisabled", type := .boolean, accessFlags := 4120, slot := 0, constantValue := 0 }]
  methods := #[k11m0, k11m1]
  instanceTypes := #[]
  staticTypes := #[.boolean]
  resolved := Array.replicate 395 none
  statics := none }

def pool12 : Array CpInfo := pool [(6, .class_ 8), (1, u "java/lang/Object"), (0, u "<init>"), (0, u "()V"), (1, .class_ 14), (1, u "java/lang/StringUTF16"), (31, u "$assertionsDisabled"), (0, u "Z"), (13, u "HI_BYTE_SHIFT"), (0, u "I"), (2, u "LO_BYTE_SHIFT"), (49, .methodref 12 116), (0, .nameAndType 117 118), (0, u "compress"), (0, u "([CI[BII)I"), (3, u "([CII)[B"), (138, u "coderFromArrayLen"), (0, u "([BI)B"), (106, .class_ 371), (1, u "java/lang/StringUTF16$LinesSpliterator"), (58, u "MAX_LENGTH"), (196, .class_ 628), (0, u "java/lang/StringUTF16$CodePointsSpliterator"), (0, .class_ 630), (0, u "java/lang/StringUTF16$CharsSpliterator")] 4

def k12m0 : Method := { name := "<init>", desc := "()V", sig := { parameters := [], returnType := none }, accessFlags := 0, code := none }
def k12c1 : Code := { maxStack := 2, maxLocals := 2, code := jdk_52_method_15_code, exceptionTable := #[], attributes := #[] }
def k12m1 : Method := { name := "coderFromArrayLen", desc := "([BI)B", sig := { parameters := [(.array .byte), .int], returnType := some .byte }, accessFlags := 8, code := some k12c1 }
def k12c2 : Code := { maxStack := 5, maxLocals := 6, code := jdk_52_method_16_code, exceptionTable := #[], attributes := #[] }
def k12m2 : Method := { name := "compress", desc := "([CII)[B", sig := { parameters := [(.array .char), .int, .int], returnType := some (.array .byte) }, accessFlags := 9, code := some k12c2 }
def k12c3 : Code := { maxStack := 3, maxLocals := 7, code := jdk_52_method_21_code, exceptionTable := #[], attributes := #[] }
def k12m3 : Method := { name := "compress", desc := "([CI[BII)I", sig := { parameters := [(.array .char), .int, (.array .byte), .int, .int], returnType := some .int }, accessFlags := 9, code := some k12c3 }
/-- java/lang/StringUTF16 -/
def k12 : Class := { plain "java/lang/StringUTF16" (some 0) with
  accessFlags := 48
  interfaces := #[]
  cf := some (fileOf pool12 12 #[.nestMembers #[627, 629, 369]] #[{ accessFlags := 0, nameIndex := 9, descriptorIndex := 10, attributes := #[] }, { accessFlags := 8, nameIndex := 261, descriptorIndex := 262, attributes := #[] }, { accessFlags := 9, nameIndex := 117, descriptorIndex := 122, attributes := #[] }, { accessFlags := 9, nameIndex := 117, descriptorIndex := 118, attributes := #[] }] 48 6 #[] #[{ accessFlags := 26, nameIndex := 61, descriptorIndex := 62, attributes := #[] }, { accessFlags := 26, nameIndex := 65, descriptorIndex := 62, attributes := #[] }, { accessFlags := 24, nameIndex := 430, descriptorIndex := 62, attributes := #[] }, { accessFlags := 4120, nameIndex := 46, descriptorIndex := 47, attributes := #[] }])
  fields := #[{ name := "HI_BYTE_SHIFT", type := .int, accessFlags := 26, slot := 0, constantValue := 0 }, { name := "LO_BYTE_SHIFT", type := .int, accessFlags := 26, slot := 1, constantValue := 0 }, { name := "MAX_LENGTH", type := .int, accessFlags := 24, slot := 2, constantValue := 0 }, { name := "$assertionsDisabled", type := .boolean, accessFlags := 4120, slot := 3, constantValue := 0 }]
  methods := #[k12m0, k12m1, k12m2, k12m3]
  instanceTypes := #[]
  staticTypes := #[.int, .int, .int, .boolean]
  resolved := Array.replicate 635 none
  statics := none }

def pool13 : Array CpInfo := pool [(2, .class_ 4), (1, u "java/lang/Object"), (0, u "<init>"), (0, u "()V"), (17, .class_ 26), (1, u "jdk/internal/util/Preconditions"), (28, .class_ 56), (0, u "jdk/internal/util/Preconditions$4"), (57, .class_ 115), (0, u "jdk/internal/util/Preconditions$1"), (7, u "SIOOBE_FORMATTER"), (0, u "Ljava/util/function/BiFunction;"), (0, .class_ 126), (0, u "jdk/internal/util/Preconditions$2"), (3, u "AIOOBE_FORMATTER"), (0, .class_ 132), (0, u "jdk/internal/util/Preconditions$3"), (3, u "IOOBE_FORMATTER")] 57

def k13m0 : Method := { name := "<init>", desc := "()V", sig := { parameters := [], returnType := none }, accessFlags := 1, code := none }
/-- jdk/internal/util/Preconditions -/
def k13 : Class := { plain "jdk/internal/util/Preconditions" (some 0) with
  accessFlags := 33
  interfaces := #[]
  cf := some (fileOf pool13 24 #[.nestMembers #[55, 131, 125, 114]] #[{ accessFlags := 1, nameIndex := 5, descriptorIndex := 6, attributes := #[] }] 33 2 #[] #[{ accessFlags := 25, nameIndex := 123, descriptorIndex := 124, attributes := #[] }, { accessFlags := 25, nameIndex := 130, descriptorIndex := 124, attributes := #[] }, { accessFlags := 25, nameIndex := 136, descriptorIndex := 124, attributes := #[] }])
  fields := #[{ name := "SIOOBE_FORMATTER", type := (.object "java/util/function/BiFunction"), accessFlags := 25, slot := 0, constantValue := 0 }, { name := "AIOOBE_FORMATTER", type := (.object "java/util/function/BiFunction"), accessFlags := 25, slot := 1, constantValue := 0 }, { name := "IOOBE_FORMATTER", type := (.object "java/util/function/BiFunction"), accessFlags := 25, slot := 2, constantValue := 0 }]
  methods := #[k13m0]
  instanceTypes := #[]
  staticTypes := #[(.object "java/util/function/BiFunction"), (.object "java/util/function/BiFunction"), (.object "java/util/function/BiFunction")]
  resolved := Array.replicate 194 none
  statics := some 2 }

def pool14 : Array CpInfo := pool [(9, u "<init>"), (6, .class_ 18), (1, u "java/lang/Object"), (0, u "()V"), (1, .class_ 23), (1, u "jdk/internal/util/ArraysSupport"), (0, u "LOG2_ARRAY_LONG_INDEX_SCALE"), (0, u "I"), (2, u "U"), (0, u "Ljdk/internal/misc/Unsafe;"), (8, u "BIG_ENDIAN"), (0, u "Z"), (8, u "LOG2_BYTE_BIT_SIZE"), (4, u "LOG2_ARRAY_INT_INDEX_SCALE"), (54, u "JLA"), (0, u "Ljdk/internal/access/JavaLangAccess;"), (11, u "LOG2_ARRAY_BOOLEAN_INDEX_SCALE"), (9, u "LOG2_ARRAY_BYTE_INDEX_SCALE"), (5, u "LOG2_ARRAY_CHAR_INDEX_SCALE"), (5, u "LOG2_ARRAY_SHORT_INDEX_SCALE"), (18, u "LOG2_ARRAY_FLOAT_INDEX_SCALE"), (24, u "LOG2_ARRAY_DOUBLE_INDEX_SCALE"), (89, u "T_BOOLEAN"), (2, u "T_CHAR"), (1, u "T_FLOAT"), (1, u "T_DOUBLE"), (1, u "T_BYTE"), (1, u "T_SHORT"), (1, u "T_INT"), (1, u "T_LONG"), (1, u "SOFT_MAX_ARRAY_LENGTH")] 83

def k14m0 : Method := { name := "<init>", desc := "()V", sig := { parameters := [], returnType := none }, accessFlags := 2, code := none }
/-- jdk/internal/util/ArraysSupport -/
def k14 : Class := { plain "jdk/internal/util/ArraysSupport" (some 0) with
  accessFlags := 33
  interfaces := #[]
  cf := some (fileOf pool14 21 #[] #[{ accessFlags := 2, nameIndex := 9, descriptorIndex := 19, attributes := #[] }] 33 16 #[] #[{ accessFlags := 24, nameIndex := 28, descriptorIndex := 29, attributes := #[] }, { accessFlags := 26, nameIndex := 38, descriptorIndex := 39, attributes := #[] }, { accessFlags := 25, nameIndex := 121, descriptorIndex := 25, attributes := #[] }, { accessFlags := 25, nameIndex := 131, descriptorIndex := 25, attributes := #[] }, { accessFlags := 25, nameIndex := 137, descriptorIndex := 25, attributes := #[] }, { accessFlags := 25, nameIndex := 143, descriptorIndex := 25, attributes := #[] }, { accessFlags := 25, nameIndex := 53, descriptorIndex := 25, attributes := #[] }, { accessFlags := 25, nameIndex := 24, descriptorIndex := 25, attributes := #[] }, { accessFlags := 25, nameIndex := 162, descriptorIndex := 25, attributes := #[] }, { accessFlags := 25, nameIndex := 187, descriptorIndex := 25, attributes := #[] }, { accessFlags := 26, nameIndex := 48, descriptorIndex := 25, attributes := #[] }, { accessFlags := 25, nameIndex := 277, descriptorIndex := 25, attributes := #[] }, { accessFlags := 25, nameIndex := 280, descriptorIndex := 25, attributes := #[] }, { accessFlags := 25, nameIndex := 282, descriptorIndex := 25, attributes := #[] }, { accessFlags := 25, nameIndex := 284, descriptorIndex := 25, attributes := #[] }, { accessFlags := 25, nameIndex := 286, descriptorIndex := 25, attributes := #[] }, { accessFlags := 25, nameIndex := 288, descriptorIndex := 25, attributes := #[] }, { accessFlags := 25, nameIndex := 290, descriptorIndex := 25, attributes := #[] }, { accessFlags := 25, nameIndex := 292, descriptorIndex := 25, attributes := #[] }, { accessFlags := 26, nameIndex := 108, descriptorIndex := 109, attributes := #[] }, { accessFlags := 25, nameIndex := 294, descriptorIndex := 25, attributes := #[] }])
  fields := #[{ name := "U", type := (.object "jdk/internal/misc/Unsafe"), accessFlags := 24, slot := 0, constantValue := 0 }, { name := "BIG_ENDIAN", type := .boolean, accessFlags := 26, slot := 1, constantValue := 0 }, { name := "LOG2_ARRAY_BOOLEAN_INDEX_SCALE", type := .int, accessFlags := 25, slot := 2, constantValue := 0 }, { name := "LOG2_ARRAY_BYTE_INDEX_SCALE", type := .int, accessFlags := 25, slot := 3, constantValue := 0 }, { name := "LOG2_ARRAY_CHAR_INDEX_SCALE", type := .int, accessFlags := 25, slot := 4, constantValue := 0 }, { name := "LOG2_ARRAY_SHORT_INDEX_SCALE", type := .int, accessFlags := 25, slot := 5, constantValue := 0 }, { name := "LOG2_ARRAY_INT_INDEX_SCALE", type := .int, accessFlags := 25, slot := 6, constantValue := 0 }, { name := "LOG2_ARRAY_LONG_INDEX_SCALE", type := .int, accessFlags := 25, slot := 7, constantValue := 0 }, { name := "LOG2_ARRAY_FLOAT_INDEX_SCALE", type := .int, accessFlags := 25, slot := 8, constantValue := 0 }, { name := "LOG2_ARRAY_DOUBLE_INDEX_SCALE", type := .int, accessFlags := 25, slot := 9, constantValue := 0 }, { name := "LOG2_BYTE_BIT_SIZE", type := .int, accessFlags := 26, slot := 10, constantValue := 0 }, { name := "T_BOOLEAN", type := .int, accessFlags := 25, slot := 11, constantValue := 0 }, { name := "T_CHAR", type := .int, accessFlags := 25, slot := 12, constantValue := 0 }, { name := "T_FLOAT", type := .int, accessFlags := 25, slot := 13, constantValue := 0 }, { name := "T_DOUBLE", type := .int, accessFlags := 25, slot := 14, constantValue := 0 }, { name := "T_BYTE", type := .int, accessFlags := 25, slot := 15, constantValue := 0 }, { name := "T_SHORT", type := .int, accessFlags := 25, slot := 16, constantValue := 0 }, { name := "T_INT", type := .int, accessFlags := 25, slot := 17, constantValue := 0 }, { name := "T_LONG", type := .int, accessFlags := 25, slot := 18, constantValue := 0 }, { name := "JLA", type := (.object "jdk/internal/access/JavaLangAccess"), accessFlags := 26, slot := 19, constantValue := 0 }, { name := "SOFT_MAX_ARRAY_LENGTH", type := .int, accessFlags := 25, slot := 20, constantValue := 0 }]
  methods := #[k14m0]
  instanceTypes := #[]
  staticTypes := #[(.object "jdk/internal/misc/Unsafe"), .boolean, .int, .int, .int, .int, .int, .int, .int, .int, .int, .int, .int, .int, .int, .int, .int, .int, .int, (.object "jdk/internal/access/JavaLangAccess"), .int]
  resolved := Array.replicate 378 none
  statics := none }

/-- the primitive byte -/
def k15 : Class := { plain "byte" none with kind := .primitive 'B', accessFlags := 0x411 }
/-- [B -/
def k16 : Class := { plain "[B" (some 0) with kind := .array 15 .byte, interfaces := #[10, 2], accessFlags := 1041 }

/-- the primitive char -/
def k17 : Class := { plain "char" none with kind := .primitive 'C', accessFlags := 0x411 }
/-- [C -/
def k18 : Class := { plain "[C" (some 0) with kind := .array 17 .char, interfaces := #[10, 2], accessFlags := 1041 }

/-- the primitive int -/
def k19 : Class := { plain "int" none with kind := .primitive 'I', accessFlags := 0x411 }
/-- [I -/
def k20 : Class := { plain "[I" (some 0) with kind := .array 19 .int, interfaces := #[10, 2], accessFlags := 1041 }

/-- [Lcom/example/indexwright/indexwright/bond/BondVariant; -/
def k21 : Class := { plain "[Lcom/example/indexwright/indexwright/bond/BondVariant;" (some 0) with kind := .array 9 (.object "com/example/indexwright/indexwright/bond/BondVariant"), interfaces := #[10, 2], accessFlags := 1041 }

def heap : Heap := #[{ cls := 7, slots := #[.long 0, .int 1, .null, .int 0, .null, .int 0, .int 0], vm := .statics 7 },
  { cls := 9, slots := #[.ref 4, .ref 5, .ref 3], vm := .statics 9 },
  { cls := 13, slots := #[.null, .null, .null], vm := .statics 13 },
  { cls := 21, slots := #[.ref 4, .ref 5], vm := .none },
  { cls := 9, slots := #[.null, .int 0, .int 0, .ref 6], vm := .none },
  { cls := 9, slots := #[.null, .int 0, .int 0, .ref 8], vm := .none },
  { cls := 7, slots := #[.ref 7, .int 0, .int 0, .int 0], vm := .none },
  { cls := 16, slots := #[.int 112, .int 114, .int 105, .int 99, .int 101], vm := .none },
  { cls := 7, slots := #[.ref 9, .int 0, .int 0, .int 0], vm := .none },
  { cls := 16, slots := #[.int 116, .int 111, .int 116, .int 97, .int 108], vm := .none }]
def classes : Array Class := #[k0, k1, k2, k3, k4, k5, k6, k7, k8, k9, k10, k11, k12, k13, k14, k15, k16, k17, k18, k19, k20, k21]
def interned : List (Array UInt16 × Addr) := []
def slotsUsed : Nat := 41
def theMethod : MethodId := ⟨1, 2⟩
def args0 : Array Value := #[.int 5, .int 5, .int 5]
def aboutOver (below : List Frame) : State where
  vm := { classes := classes, interned := interned.toArray }
  heap := heap
  slotsUsed := slotsUsed
  threads := #[{ frames := .invoking theMethod args0 :: below }]
def below0 : List Frame := [.native { method := ⟨0, 0⟩, args := #[] }]
def about1 : State := aboutOver below0
def p0 : Program := .bare "" "" ""
def e0 : Env := launch0.env 0 0 0
theorem w_frames : about1.frames = Frame.invoking theMethod args0 :: below0 := rfl
set_option maxRecDepth 65536 in
theorem w_args : argsFit about1.vm theMethod args0 = true := by decide +kernel
set_option maxRecDepth 65536 in
theorem w_heap : heapFits about1 = true := by decide +kernel
set_option maxRecDepth 65536 in
theorem w_runnable : about1.curStatus? = some .runnable := by decide +kernel
set_option maxRecDepth 65536 in
theorem w_alone : about1.alone = true := by decide +kernel
set_option maxRecDepth 65536 in
theorem w_named : about1.methodNamed? x = some theMethod := by decide +kernel
set_option maxRecDepth 65536 in
theorem w_hears : about1.hears theMethod below0 = true := by decide +kernel
set_option maxRecDepth 65536 in
theorem w_ripe : about1.ripe theMethod args0 below0 = true := by decide +kernel
theorem w_running : about1.status = .running := rfl
set_option maxRecDepth 65536 in
theorem w_room : about1.hasRoom e0.platform room_1 = true :=
  launch0.hasRoom_least _ room_1 (by decide +kernel) (by decide +kernel) (by decide +kernel) (by decide +kernel) (by decide +kernel) (by decide +kernel)
theorem allAtoms_all (ts : List Jvm.Cond) (a : Array Jvm.Value) (st : Jvm.State) : (allAtoms ts).before a st = ts.all (fun c => c.before a st) := by
  induction ts with
  | nil => rfl
  | cons c t ih =>
    show (Jvm.Cond.and c (allAtoms t)).before a st = _
    rw [Jvm.Cond.before_and, ih, List.all_cons]
def words1 : List Jvm.Cond := Jvm.Cond.code x code maxLocals ret :: tables_1
/-- a 'code' word, met by the world's own term for the bytes: nothing is compared byte by byte -/
theorem code_word {y : MethodName} {bytes : ByteArray} {mx : Nat} {rt : Option FieldType} {a : Array Value} {s : State} {m : MethodId} {meth : Method} {c : Code} (h1 : s.methodNamed? y = some m) (h2 : s.vm.method? m = some meth) (h3 : meth.code = some c) (h4 : c.code = bytes)
    (h5 : (c.maxLocals == mx && c.exceptionTable.isEmpty && decide (c.maxStack ≤ mostOperands) && decide (meth.sig.returnType = rt) && !meth.locks && decide (parseMethodDescriptor y.desc = some meth.sig)) = true) : (Jvm.Cond.code y bytes mx rt).before a s = true := by
  simp only [Bool.and_eq_true, beq_iff_eq, Bool.not_eq_true', decide_eq_true_eq] at h5
  obtain ⟨⟨⟨⟨⟨g1, g2⟩, g3⟩, g4⟩, g5⟩, g6⟩ := h5
  simp [Cond.before, Cond.holds, Cond.value, h1, h2, h3, h4, g1, g2, g3, g4, g5, g6]
def isCode : Jvm.Cond → Bool
  | .code _ _ _ _ => true
  | _ => false
theorem all_split {L : List Jvm.Cond} {P : Jvm.Cond → Bool} (h1 : L.all (fun c => isCode c || P c) = true) (h2 : ∀ c ∈ L.filter isCode, P c = true) : L.all P = true := by
  refine List.all_eq_true.mpr fun c hc => ?_
  have h := List.all_eq_true.mp h1 c hc
  rcases Bool.eq_false_or_eq_true (isCode c) with hi | hi
  · exact h2 c (List.mem_filter.mpr ⟨hc, hi⟩)
  · simpa [hi] using h
set_option maxRecDepth 65536 in
theorem w_c0 : (Jvm.Cond.code x code maxLocals ret).before args0 about1 = true := code_word (m := ⟨1, 2⟩) (meth := k1m2) (c := k1c2) (by decide +kernel) rfl rfl rfl (by decide +kernel)
set_option maxRecDepth 65536 in
theorem w_c1 : (Jvm.Cond.code ({ cls := "com/example/indexwright/indexwright/bond/BondVariantOfPinLaw", name := "make", desc := "([CI)Ljava/lang/String;" } : Jvm.MethodName) method_2_code (2 : Nat) (Option.some (Jvm.ClassFile.FieldType.object "java/lang/String"))).before args0 about1 = true := code_word (m := ⟨1, 1⟩) (meth := k1m1) (c := k1c1) (by decide +kernel) rfl rfl rfl (by decide +kernel)
set_option maxRecDepth 65536 in
theorem w_c2 : (Jvm.Cond.code ({ cls := "java/lang/String", name := "<init>", desc := "([C)V" } : Jvm.MethodName) jdk_42_method_3_code (2 : Nat) (Option.none : Option Jvm.ClassFile.FieldType)).before args0 about1 = true := code_word (m := ⟨7, 1⟩) (meth := k7m1) (c := k7c1) (by decide +kernel) rfl rfl rfl (by decide +kernel)
set_option maxRecDepth 65536 in
theorem w_c3 : (Jvm.Cond.code ({ cls := "java/lang/String", name := "<init>", desc := "([CIILjava/lang/Void;)V" } : Jvm.MethodName) jdk_42_method_149_code (6 : Nat) (Option.none : Option Jvm.ClassFile.FieldType)).before args0 about1 = true := code_word (m := ⟨7, 3⟩) (meth := k7m3) (c := k7c3) (by decide +kernel) rfl rfl rfl (by decide +kernel)
set_option maxRecDepth 65536 in
theorem w_c4 : (Jvm.Cond.code ({ cls := "java/lang/Object", name := "<init>", desc := "()V" } : Jvm.MethodName) object_method_1_code (1 : Nat) (Option.none : Option Jvm.ClassFile.FieldType)).before args0 about1 = true := code_word (m := ⟨0, 0⟩) (meth := k0m0) (c := k0c0) (by decide +kernel) rfl rfl rfl (by decide +kernel)
set_option maxRecDepth 65536 in
theorem w_c5 : (Jvm.Cond.code ({ cls := "com/example/indexwright/indexwright/bond/BondVariant", name := "of", desc := "(Ljava/lang/String;)Lcom/example/indexwright/indexwright/bond/BondVariant;" } : Jvm.MethodName) prog_6_method_5_code (5 : Nat) (Option.some (Jvm.ClassFile.FieldType.object "com/example/indexwright/indexwright/bond/BondVariant"))).before args0 about1 = true := code_word (m := ⟨9, 1⟩) (meth := k9m1) (c := k9c1) (by decide +kernel) rfl rfl rfl (by decide +kernel)
set_option maxRecDepth 65536 in
theorem w_c6 : (Jvm.Cond.code ({ cls := "com/example/indexwright/indexwright/bond/BondVariant", name := "values", desc := "()[Lcom/example/indexwright/indexwright/bond/BondVariant;" } : Jvm.MethodName) prog_6_method_1_code (0 : Nat) (Option.some (Jvm.ClassFile.FieldType.array (Jvm.ClassFile.FieldType.object "com/example/indexwright/indexwright/bond/BondVariant")))).before args0 about1 = true := code_word (m := ⟨9, 0⟩) (meth := k9m0) (c := k9c0) (by decide +kernel) rfl rfl rfl (by decide +kernel)
set_option maxRecDepth 65536 in
theorem w_c7 : (Jvm.Cond.code ({ cls := "java/lang/String", name := "equals", desc := "(Ljava/lang/Object;)Z" } : Jvm.MethodName) jdk_42_method_66_code (3 : Nat) (Option.some Jvm.ClassFile.FieldType.boolean)).before args0 about1 = true := code_word (m := ⟨7, 2⟩) (meth := k7m2) (c := k7c2) (by decide +kernel) rfl rfl rfl (by decide +kernel)
set_option maxRecDepth 65536 in
theorem w_c8 : (Jvm.Cond.code ({ cls := "java/lang/StringLatin1", name := "equals", desc := "([B[B)Z" } : Jvm.MethodName) jdk_43_method_13_code (3 : Nat) (Option.some Jvm.ClassFile.FieldType.boolean)).before args0 about1 = true := code_word (m := ⟨11, 1⟩) (meth := k11m1) (c := k11c1) (by decide +kernel) rfl rfl rfl (by decide +kernel)
set_option maxRecDepth 65536 in
theorem w_c9 : (Jvm.Cond.code ({ cls := "java/lang/StringUTF16", name := "compress", desc := "([CII)[B" } : Jvm.MethodName) jdk_52_method_16_code (6 : Nat) (Option.some (Jvm.ClassFile.FieldType.array Jvm.ClassFile.FieldType.byte))).before args0 about1 = true := code_word (m := ⟨12, 2⟩) (meth := k12m2) (c := k12c2) (by decide +kernel) rfl rfl rfl (by decide +kernel)
set_option maxRecDepth 65536 in
theorem w_c10 : (Jvm.Cond.code ({ cls := "java/lang/StringUTF16", name := "compress", desc := "([CI[BII)I" } : Jvm.MethodName) jdk_52_method_21_code (7 : Nat) (Option.some Jvm.ClassFile.FieldType.int)).before args0 about1 = true := code_word (m := ⟨12, 3⟩) (meth := k12m3) (c := k12c3) (by decide +kernel) rfl rfl rfl (by decide +kernel)
set_option maxRecDepth 65536 in
theorem w_c11 : (Jvm.Cond.code ({ cls := "java/lang/StringUTF16", name := "coderFromArrayLen", desc := "([BI)B" } : Jvm.MethodName) jdk_52_method_15_code (2 : Nat) (Option.some Jvm.ClassFile.FieldType.byte)).before args0 about1 = true := code_word (m := ⟨12, 1⟩) (meth := k12m1) (c := k12c1) (by decide +kernel) rfl rfl rfl (by decide +kernel)
def codes1 : List Jvm.Cond := [Jvm.Cond.code x code maxLocals ret, Jvm.Cond.code ({ cls := "com/example/indexwright/indexwright/bond/BondVariantOfPinLaw", name := "make", desc := "([CI)Ljava/lang/String;" } : Jvm.MethodName) method_2_code (2 : Nat) (Option.some (Jvm.ClassFile.FieldType.object "java/lang/String")), Jvm.Cond.code ({ cls := "java/lang/String", name := "<init>", desc := "([C)V" } : Jvm.MethodName) jdk_42_method_3_code (2 : Nat) (Option.none : Option Jvm.ClassFile.FieldType), Jvm.Cond.code ({ cls := "java/lang/String", name := "<init>", desc := "([CIILjava/lang/Void;)V" } : Jvm.MethodName) jdk_42_method_149_code (6 : Nat) (Option.none : Option Jvm.ClassFile.FieldType), Jvm.Cond.code ({ cls := "java/lang/Object", name := "<init>", desc := "()V" } : Jvm.MethodName) object_method_1_code (1 : Nat) (Option.none : Option Jvm.ClassFile.FieldType), Jvm.Cond.code ({ cls := "com/example/indexwright/indexwright/bond/BondVariant", name := "of", desc := "(Ljava/lang/String;)Lcom/example/indexwright/indexwright/bond/BondVariant;" } : Jvm.MethodName) prog_6_method_5_code (5 : Nat) (Option.some (Jvm.ClassFile.FieldType.object "com/example/indexwright/indexwright/bond/BondVariant")), Jvm.Cond.code ({ cls := "com/example/indexwright/indexwright/bond/BondVariant", name := "values", desc := "()[Lcom/example/indexwright/indexwright/bond/BondVariant;" } : Jvm.MethodName) prog_6_method_1_code (0 : Nat) (Option.some (Jvm.ClassFile.FieldType.array (Jvm.ClassFile.FieldType.object "com/example/indexwright/indexwright/bond/BondVariant"))), Jvm.Cond.code ({ cls := "java/lang/String", name := "equals", desc := "(Ljava/lang/Object;)Z" } : Jvm.MethodName) jdk_42_method_66_code (3 : Nat) (Option.some Jvm.ClassFile.FieldType.boolean), Jvm.Cond.code ({ cls := "java/lang/StringLatin1", name := "equals", desc := "([B[B)Z" } : Jvm.MethodName) jdk_43_method_13_code (3 : Nat) (Option.some Jvm.ClassFile.FieldType.boolean), Jvm.Cond.code ({ cls := "java/lang/StringUTF16", name := "compress", desc := "([CII)[B" } : Jvm.MethodName) jdk_52_method_16_code (6 : Nat) (Option.some (Jvm.ClassFile.FieldType.array Jvm.ClassFile.FieldType.byte)), Jvm.Cond.code ({ cls := "java/lang/StringUTF16", name := "compress", desc := "([CI[BII)I" } : Jvm.MethodName) jdk_52_method_21_code (7 : Nat) (Option.some Jvm.ClassFile.FieldType.int), Jvm.Cond.code ({ cls := "java/lang/StringUTF16", name := "coderFromArrayLen", desc := "([BI)B" } : Jvm.MethodName) jdk_52_method_15_code (2 : Nat) (Option.some Jvm.ClassFile.FieldType.byte)]
set_option maxRecDepth 65536 in
theorem codes_eq : words1.filter isCode = codes1 := rfl
theorem w_codes : ∀ c ∈ words1.filter isCode, c.before args0 about1 = true := by
  rw [codes_eq]
  intro c hc
  simp only [codes1, List.mem_cons, List.not_mem_nil, or_false] at hc
  rcases hc with rfl | rfl | rfl | rfl | rfl | rfl | rfl | rfl | rfl | rfl | rfl | rfl
  · exact w_c0
  · exact w_c1
  · exact w_c2
  · exact w_c3
  · exact w_c4
  · exact w_c5
  · exact w_c6
  · exact w_c7
  · exact w_c8
  · exact w_c9
  · exact w_c10
  · exact w_c11
set_option maxRecDepth 65536 in
theorem w_t1 : (words1.take 24).all (fun c => isCode c || c.before args0 about1) = true := by decide +kernel
set_option maxRecDepth 65536 in
theorem w_t2 : ((words1.drop 24).take 24).all (fun c => isCode c || c.before args0 about1) = true := by decide +kernel
set_option maxRecDepth 65536 in
theorem w_t3 : (((words1.drop 24).drop 24).take 24).all (fun c => isCode c || c.before args0 about1) = true := by decide +kernel
set_option maxRecDepth 65536 in
theorem w_t4 : (((words1.drop 24).drop 24).drop 24).all (fun c => isCode c || c.before args0 about1) = true := by decide +kernel
theorem w_tables : (allAtoms (Jvm.Cond.code x code maxLocals ret :: tables_1)).before args0 about1 = true := by
  rw [allAtoms_all]
  show words1.all (fun c => c.before args0 about1) = true
  refine all_split ?_ w_codes
  rw [← List.take_append_drop 24 words1, List.all_append, w_t1, ← List.take_append_drop 24 (words1.drop 24), List.all_append, w_t2, ← List.take_append_drop 24 ((words1.drop 24).drop 24), List.all_append, w_t3, w_t4]
  rfl
set_option maxRecDepth 65536 in
theorem w_rest : rest_1_c.before args0 about1 = true := by decide +kernel
set_option maxRecDepth 65536 in
theorem w_case : (Jvm.Cond.and given_1 narrow_1).before args0 about1 = true := by decide +kernel
set_option maxRecDepth 65536 in
theorem w_consts : constsHeld consts_1 about1 := Jvm.Lit.constsHeldB_iff.mp (by decide +kernel)
theorem w_applies : (headSpec (Jvm.Cond.code x code maxLocals ret :: tables_1) room_1).applies x e0.platform about1 = true :=
  (Spec.applies_iff w_frames).mpr ⟨w_running, w_runnable, w_alone, w_named, w_hears, w_ripe, w_room, w_tables⟩
theorem atStart : AtStart classFile x code maxLocals ret World_1 tables_1 room_1 Calls_1 rest_1 Pre_1 launch0 p0 e0 about1 theMethod args0 below0 :=
  ⟨lists_1, trivial, launch0.admits_env _ _ _, launch0.least_env, fairChoices_fair.cas, fairChoices_fair.clock, w_frames, w_args, w_heap, w_applies, ⟨w_consts, trivial⟩, w_rest, w_case⟩
end start1
theorem witness_1 : WitnessClaimed_1 := ⟨start1.p0, start1.e0, start1.about1, start1.theMethod, start1.args0, start1.below0, start1.atStart⟩
end Jvm.Pilot.@@N@@
